/-
  SHARED CONTRACTS OF THIS SEAT (3): 'zzs5551bless', the order written out field by field, answers as 'before'.
-/
import Derived.Test.YbulkdjyaBefore
namespace Go.Proofs.Ybulkdjya
open Go.ChangeShapes Go.WideShapes Go.ChangeAt Go.RowKit
set_option linter.unusedVariables false

theorem cmp3_zero {x y : Int} : cmp3 x y = 0 ↔ x = y := by
  unfold cmp3
  split
  · constructor
    · intro h; omega
    · intro h; omega
  · split
    · constructor
      · intro h; omega
      · intro h; omega
    · constructor
      · intro h; omega
      · intro h; rfl
theorem cmp3_neg {x y : Int} : cmp3 x y < 0 ↔ x < y := by
  unfold cmp3
  split
  · constructor
    · intro h; assumption
    · intro h; omega
  · split
    · constructor
      · intro h; omega
      · intro h; omega
    · constructor
      · intro h; omega
      · intro h; omega
theorem dec_cmp3 (x y : Int) : decide (cmp3 x y < 0) = decide (x < y) := decide_eq_decide.2 cmp3_neg
theorem less_p {pa pb na nb sa sb ta tb c : Int} (h : pa ≠ pb) : lessRaw pa pb na nb sa sb ta tb c = decide (pa < pb) := by rw [lessRaw, if_neg h]
theorem less_n {pa na nb sa sb ta tb c : Int} (h : na ≠ nb) : lessRaw pa pa na nb sa sb ta tb c = decide (na < nb) := by
  rw [lessRaw, if_pos rfl, orL, if_neg (fun e => h (cmp3_zero.1 e)), dec_cmp3]
theorem less_s {pa na sa sb ta tb c : Int} (h : sa ≠ sb) : lessRaw pa pa na na sa sb ta tb c = decide (sa < sb) := by
  rw [lessRaw, if_pos rfl, orL, if_pos (cmp3_zero.2 rfl), orL, if_neg (fun e => h (cmp3_zero.1 e)), dec_cmp3]
theorem less_t {pa na sa ta tb c : Int} (h : ta ≠ tb) : lessRaw pa pa na na sa sa ta tb c = decide (ta < tb) := by
  rw [lessRaw, if_pos rfl, orL, if_pos (cmp3_zero.2 rfl), orL, if_pos (cmp3_zero.2 rfl), orL, if_neg (fun e => h (cmp3_zero.1 e)), dec_cmp3]
theorem less_c {pa na sa ta c : Int} : lessRaw pa pa na na sa sa ta ta c = decide (c < 0) := by
  rw [lessRaw, if_pos rfl, orL, if_pos (cmp3_zero.2 rfl), orL, if_pos (cmp3_zero.2 rfl), orL, if_pos (cmp3_zero.2 rfl), orL]
  by_cases h : c = 0
  · rw [if_pos h, h]; rfl
  · rw [if_neg h]

set_option maxRecDepth 100000 in
set_option maxHeartbeats 4000000 in
theorem less_raw (ra na ca rb nb cb : Nat) (aa ab : Option Addr) (ida idb : List Int) (ranka tiea sha rankb tieb shb : Int) (w : World)
    (ha0 : w.cell? ⟨ra, 0, none⟩ = some (.slice aa na ca)) (ha1 : w.cell? ⟨ra, 1, none⟩ = some (.int .u64 ranka)) (ha2 : w.cell? ⟨ra, 2, none⟩ = some (.int .u64 tiea)) (hai : IntsAt w aa ida) (HNA : Hid (ida.length = na)) (hal : na ≤ 16777216)
    (hb0 : w.cell? ⟨rb, 0, none⟩ = some (.slice ab nb cb)) (hb1 : w.cell? ⟨rb, 1, none⟩ = some (.int .u64 rankb)) (hb2 : w.cell? ⟨rb, 2, none⟩ = some (.int .u64 tieb)) (hbi : IntsAt w ab idb) (HNB : Hid (idb.length = nb)) (hbl : nb ≤ 16777216) :
    Calls Yba.prog 8 #[.agg #[.pointer (some ⟨ra, 0, none⟩), .int .i64 sha], .agg #[.pointer (some ⟨rb, 0, none⟩), .int .i64 shb]] w fun e w' =>
      e = .returned (.bool (lessRaw (pl na ranka sha) (pl nb rankb shb) na nb sha shb tiea tieb (cmpL ida idb))) ∧ Below w.heap.size w w' := by
  have hra : ra < w.heap.size := block_lt_of_cell ha0
  have hrb : rb < w.heap.size := block_lt_of_cell hb0
  go_enter Yba.func8, Yba.ntmps8
  go_wp2
  obtain ⟨W, hW⟩ : ∃ W, (w.alloc (.cells #[.pointer (some ⟨ra, 0, none⟩), .int .i64 sha] 33)).alloc (.cells #[.pointer (some ⟨rb, 0, none⟩), .int .i64 shb] 33) = W := ⟨_, rfl⟩
  have hBW : Below w.heap.size w W := by rw [← hW]; exact ((Below.refl _ _).alloc (Nat.le_refl _) _).alloc (by simp) _
  have ka0 : W.cell? ⟨w.heap.size, 0, none⟩ = some (.pointer (some ⟨ra, 0, none⟩)) := by rw [← hW]; simp [go_sem]
  have ka1 : W.cell? ⟨w.heap.size, 1, none⟩ = some (.int .i64 sha) := by rw [← hW]; simp [go_sem]
  have kb0 : W.cell? ⟨w.heap.size + 1, 0, none⟩ = some (.pointer (some ⟨rb, 0, none⟩)) := by rw [← hW]; simp [go_sem]
  have kb1 : W.cell? ⟨w.heap.size + 1, 1, none⟩ = some (.int .i64 shb) := by rw [← hW]; simp [go_sem]
  have Ha0 := cell_later hBW ha0
  have Ha1 := cell_later hBW ha1
  have Ha2 := cell_later hBW ha2
  have Hb0 := cell_later hBW hb0
  have Hb1 := cell_later hBW hb1
  have Hb2 := cell_later hBW hb2
  have Hai := hai.later hBW
  have Hbi := hbi.later hBW
  rw [hW]
  clear hW ha0 ha1 ha2 hb0 hb1 hb2 hai hbi hra hrb
  have cP : ∀ d os, Calls Yba.prog 13 #[.agg #[.pointer (some ⟨ra, 0, none⟩), .int .i64 sha]] (Sort.grow (redrawn W d) os) fun e w'' => e = .returned (.int .u64 (pl na ranka sha)) ∧ ∃ p : Regrown, w'' = Sort.grow (redrawn W p.d) p.os :=
    fun d os => Calls.regrown_of (lplace_any ra na ca aa ranka sha _ (cell_regrown Ha0 d os) (cell_regrown Ha1 d os))
  have cQ : ∀ d os, Calls Yba.prog 13 #[.agg #[.pointer (some ⟨rb, 0, none⟩), .int .i64 shb]] (Sort.grow (redrawn W d) os) fun e w'' => e = .returned (.int .u64 (pl nb rankb shb)) ∧ ∃ p : Regrown, w'' = Sort.grow (redrawn W p.d) p.os :=
    fun d os => Calls.regrown_of (lplace_any rb nb cb ab rankb shb _ (cell_regrown Hb0 d os) (cell_regrown Hb1 d os))
  have ga0 := cell_regrown ka0
  have ga1 := cell_regrown ka1
  have gb0 := cell_regrown kb0
  have gb1 := cell_regrown kb1
  generalize hpa : pl na ranka sha = pa at *
  generalize hpb : pl nb rankb shb = pb at *
  have HPA : Hid (pl na ranka sha = pa) := hpa
  have HPB : Hid (pl nb rankb shb = pb) := hpb
  clear hpa hpb
  refine region_below (by kernel_rfl) (by kernel_rfl) ?_
  repeat (quiet_step (first | (go_at_call_of 13 sha; exact cP _ _) | (go_at_call_of 13 shb; exact cQ _ _)))
  refine wpQuiet_nil ?_
  intro w2 hB2
  have qa0 := cell_later hB2 ka0
  have qa1 := cell_later hB2 ka1
  have qb0 := cell_later hB2 kb0
  have qb1 := cell_later hB2 kb1
  have Qa0 := cell_later hB2 Ha0
  have Qa2 := cell_later hB2 Ha2
  have Qb0 := cell_later hB2 Hb0
  have Qb2 := cell_later hB2 Hb2
  have Qai := Hai.later hB2
  have Qbi := Hbi.later hB2
  have hBB : Below w.heap.size w w2 := hBW.trans (hB2.mono hBW.size)
  clear ga0 ga1 gb0 gb1 cP cQ Ha0 Ha1 Ha2 Hb0 Hb1 Hb2 Hai Hbi ka0 ka1 kb0 kb1 hB2 hBW
  by_cases hpp : pa = pb
  · subst hpp
    by_cases hnn : na = nb
    · subst hnn
      by_cases hss : sha = shb
      · subst hss
        by_cases htt : tiea = tieb
        · subst htt
          go_wp2
          go_quiet (fail)
          go_wp2
          go_quiet (fail)
          go_wp2
          have HF : Hid (lessRaw (pl na ranka sha) (pl na rankb sha) na na sha sha tiea tiea (cmpL ida idb) = decide (cmpL ida idb < 0)) := (show _ = _ by rw [HPA.out, HPB.out, less_c])
          clear HPA HPB
          go_loopw [7] (fun t wr => ∃ k : Nat, k ≤ na ∧ t = .int .i64 k ∧ (∃ n, wr = w2.drewN n) ∧ Hid (cmpL ida idb = cmpL (ida.drop k) (idb.drop k))) (fun t _ => na - (intOf t).toNat)
          case atStart => exact ⟨0, Nat.zero_le _, rfl, ⟨_, World.drewN_drewN _ _ _⟩, (show _ = _ from rfl)⟩
          case round =>
            obtain ⟨k, hk, rfl, ⟨n, rfl⟩, HC⟩ := hrel
            by_cases hlt : k < na
            · obtain ⟨ba, oa, rfl, hca⟩ := Qai k (by rw [HNA.out]; exact hlt)
              obtain ⟨bb, ob, rfl, hcb⟩ := Qbi k (by rw [HNB.out]; exact hlt)
              have HX : Hid (cmpL (ida.drop k) (idb.drop k) = if cmp3 (ida.getD k 0) (idb.getD k 0) = 0 then cmpL (ida.drop (k + 1)) (idb.drop (k + 1)) else cmp3 (ida.getD k 0) (idb.getD k 0)) := by
                show _ = _
                rw [drop_cons ida k (by rw [HNA.out]; exact hlt), drop_cons idb k (by rw [HNB.out]; exact hlt)]
                rfl
              generalize ida.getD k 0 = x at *
              generalize idb.getD k 0 = y at *
              have hlt' : (k : Int) < (na : Int) := by omega
              by_cases hz : x = y
              · subst hz
                have HR : Hid (cmpL ida idb = cmpL (ida.drop (k + 1)) (idb.drop (k + 1))) := (show _ = _ by rw [HC.out, HX.out, if_pos (cmp3_zero.2 rfl)])
                clear HX HC
                go_wp2
                go_quiet (fail)
                go_wp2
                go_roundw
                case rel => exact ⟨k + 1, by omega, by go_num, ⟨_, rfl⟩, HR⟩
                case measure => simp [intOf]; omega
              · have hzb : (x == y) = false := by simpa using hz
                have HG : Hid (decide (cmpL ida idb < 0) = decide (x < y)) := (show _ = _ by rw [HC.out, HX.out, if_neg (fun e => hz (cmp3_zero.1 e)), dec_cmp3])
                clear HX HC
                go_wp2
                go_quiet (fail)
                go_wp2
                go_quiet (fail)
                go_wp2
                go_ret
                exact ⟨by rw [HF.out, HG.out]; rfl, by repeat (first | exact hBB | apply below_drewN)⟩
            · have HG : Hid (decide (cmpL ida idb < 0) = false) := by
                show _ = _
                rw [HC.out, drop_nil ida k (by rw [HNA.out]; omega), drop_nil idb k (by rw [HNB.out]; omega)]
                rfl
              have hge : decide ((k : Int) < (na : Int)) = false := decide_eq_false (by omega)
              go_wp2
              go_quiet (fail)
              go_wp2
              go_ret
              exact ⟨by rw [HF.out, HG.out]; rfl, by repeat (first | exact hBB | apply below_drewN)⟩
        · have htb : (tiea == tieb) = false := by simpa using htt
          have HF : Hid (lessRaw (pl na ranka sha) (pl na rankb sha) na na sha sha tiea tieb (cmpL ida idb) = decide (tiea < tieb)) := (show _ = _ by rw [HPA.out, HPB.out, less_t htt])
          go_wp2
          go_quiet (fail)
          go_wp2
          go_quiet (fail)
          go_wp2
          go_quiet (fail)
          go_wp2
          go_ret
          exact ⟨by rw [HF.out]; rfl, by repeat (first | exact hBB | apply below_drewN)⟩
      · have hsb : (sha == shb) = false := by simpa using hss
        have HF : Hid (lessRaw (pl na ranka sha) (pl na rankb shb) na na sha shb tiea tieb (cmpL ida idb) = decide (sha < shb)) := (show _ = _ by rw [HPA.out, HPB.out, less_s hss])
        go_wp2
        go_quiet (fail)
        go_wp2
        go_ret
        exact ⟨by rw [HF.out]; rfl, by repeat (first | exact hBB | apply below_drewN)⟩
    · have hnb : ((na : Int) == (nb : Int)) = false := beq_eq_false_iff_ne.2 (by omega)
      have HF : Hid (lessRaw (pl na ranka sha) (pl nb rankb shb) na nb sha shb tiea tieb (cmpL ida idb) = decide (na < nb)) := (show _ = _ by rw [HPA.out, HPB.out, less_n (by omega)]; exact decide_eq_decide.2 (by omega))
      go_wp2
      go_quiet (fail)
      go_wp2
      go_quiet (fail)
      go_wp2
      go_ret
      exact ⟨by rw [HF.out]; rfl, by repeat (first | exact hBB | apply below_drewN)⟩
  · have hpb : (pa == pb) = false := by simpa using hpp
    have HF : Hid (lessRaw (pl na ranka sha) (pl nb rankb shb) na nb sha shb tiea tieb (cmpL ida idb) = decide (pa < pb)) := (show _ = _ by rw [HPA.out, HPB.out, less_p hpp])
    go_wp2
    go_ret
    exact ⟨by rw [HF.out]; rfl, hBB⟩

theorem less_any (a b : Sl) (w : World) (ha : RecAt w a) (hb : RecAt w b) :
    Calls Yba.prog 8 #[a.val, b.val] w fun e w' => e = .returned (.bool (lessB a b)) ∧ Below w.heap.size w w' := by
  obtain ⟨aa, ca, ha0, ha1, ha2, hai, hal⟩ := ha
  obtain ⟨ab, cb, hb0, hb1, hb2, hbi, hbl⟩ := hb
  exact less_raw a.r a.ids.length ca b.r b.ids.length cb aa ab a.ids b.ids a.rank a.tie a.sh b.rank b.tie b.sh w ha0 ha1 ha2 hai (show _ = _ from rfl) hal hb0 hb1 hb2 hbi (show _ = _ from rfl) hbl
end Go.Proofs.Ybulkdjya
