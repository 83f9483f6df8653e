/-
  SHARED CONTRACTS OF THIS SEAT (2): 'before' on two slots whose records lie in memory.
-/
import Derived.Test.YbulkdjyaCmp
import Derived.Lib.QuietBelow
import Derived.Deep.RegionWith
namespace Go.Proofs.Ybulkdjya
open Go.ChangeShapes Go.WideShapes Go.ChangeAt Go.RowKit
set_option linter.unusedVariables false

/-- A region that draws its order, whose operations only read and whose callees only lay new blocks: one walk in the text's order; behind it any world in which of what was there nothing has turned. -/
theorem region_below {P : Program} {id : Nat} {Q : Exit → Act → World → Prop} {a : Act} {w : World} {l : List Oper} (hm : P.follows .mixedOrders = true) (hB : Region.lexB .any l.toArray = true)
    (h : wpQuiet P l.toArray (fun w' => ∃ p : Regrown, w' = Sort.grow (redrawn w p.d) p.os) (fun a' => ∀ w', Below w.heap.size w w' → Q .normal a' w') l a) : (Code.region id l.toArray true).wp P Q a w := by
  refine wp_region_quiet (C := fun w' => ∃ p : Regrown, w' = Sort.grow (redrawn w p.d) p.os) hm hB ⟨⟨w.drawn + 1, #[]⟩, by rw [Sort.grow_empty]; rfl⟩ ?_
  have conv : ∀ (rest : List Oper) (a : Act), wpQuiet P l.toArray (fun w' => ∃ p : Regrown, w' = Sort.grow (redrawn w p.d) p.os) (fun a' => ∀ w', Below w.heap.size w w' → Q .normal a' w') rest a →
      wpQuiet P l.toArray (fun w' => ∃ p : Regrown, w' = Sort.grow (redrawn w p.d) p.os) (fun a' => ∀ w', (∃ p : Regrown, w' = Sort.grow (redrawn w p.d) p.os) → Q .normal a' w') rest a := by
    intro rest
    induction rest with
    | nil => intro a h w' ⟨p, hp⟩; subst hp; exact h _ (below_regrown w p.d p.os)
    | cons o rest ih =>
      intro a h
      unfold wpQuiet at h ⊢
      split
      · rename_i hw
        rw [if_pos hw] at h
        exact Oper.quiet_mono (fun a' => ih a') h
      · rename_i hw
        rw [if_neg hw] at h
        exact ih _ h
  simpa using conv l a (by simpa using h)

/-- A slot: its record's block, what the record holds, and the count. -/
structure Sl where
  r : Nat
  ids : List Int
  rank : Int
  tie : Int
  sh : Int
def Sl.val (s : Sl) : Value := .agg #[.pointer (some ⟨s.r, 0, none⟩), .int .i64 s.sh]
/-- The record of a slot lies in memory. -/
def RecAt (w : World) (s : Sl) : Prop :=
  ∃ ai ca, w.cell? ⟨s.r, 0, none⟩ = some (.slice ai s.ids.length ca) ∧ w.cell? ⟨s.r, 1, none⟩ = some (.int .u64 s.rank) ∧ w.cell? ⟨s.r, 2, none⟩ = some (.int .u64 s.tie) ∧ IntsAt w ai s.ids ∧ s.ids.length ≤ 16777216
theorem RecAt.later {w wx : World} {s : Sl} (h : RecAt w s) (hb : Below w.heap.size w wx) : RecAt wx s := by
  obtain ⟨ai, ca, h0, h1, h2, hi, hl⟩ := h
  exact ⟨ai, ca, cell_later hb h0, cell_later hb h1, cell_later hb h2, hi.later hb, hl⟩
def Sl.place (s : Sl) : Int := pl s.ids.length s.rank s.sh
/-- The order, out of the ranks, the sizes, the counts, the ties and the compare of the ids. -/
def lessRaw (pa pb na nb sa sb ta tb c : Int) : Bool := if pa = pb then decide (orL [cmp3 na nb, cmp3 sa sb, cmp3 ta tb, c] < 0) else decide (pa < pb)
def lessB (a b : Sl) : Bool := lessRaw a.place b.place a.ids.length b.ids.length a.sh b.sh a.tie b.tie (cmpL a.ids b.ids)

theorem IntsAt.of_heap {w wx : World} {a : Option Addr} {zs : List Int} (hh : wx.heap = w.heap) (h : IntsAt w a zs) : IntsAt wx a zs := by
  intro i hi
  obtain ⟨b, off, ha, hc⟩ := h i hi
  exact ⟨b, off, ha, by rw [World.cell?_of_block (w := w) (by rw [hh])]; exact hc⟩

theorem four_at (w2 : World) (c1 c2 c3 c4 : Int) : IntsAt (w2.alloc (.cells #[.int .i64 c1, .int .i64 c2, .int .i64 c3, .int .i64 c4] 3)).drew (some ⟨w2.heap.size, 0, none⟩) [c1, c2, c3, c4] := by
  intro i hi
  refine ⟨w2.heap.size, 0, rfl, ?_⟩
  rw [Nat.zero_add]
  refine (World.cell?_alloc_mark w2 _ 3 (0, 0) i).trans ?_
  match i, hi with
  | 0, _ => rfl
  | 1, _ => rfl
  | 2, _ => rfl
  | 3, _ => rfl

set_option maxHeartbeats 1000000 in
theorem before_raw (ra na ca rb nb cb : Nat) (aa ab : Option Addr) (ida idb : List Int) (ranka tiea sha rankb tieb shb : Int) (w : World)
    (ha0 : w.cell? ⟨ra, 0, none⟩ = some (.slice aa na ca)) (ha1 : w.cell? ⟨ra, 1, none⟩ = some (.int .u64 ranka)) (ha2 : w.cell? ⟨ra, 2, none⟩ = some (.int .u64 tiea)) (hai : IntsAt w aa ida) (HNA : Hid (ida.length = na)) (hal : na ≤ 16777216)
    (hb0 : w.cell? ⟨rb, 0, none⟩ = some (.slice ab nb cb)) (hb1 : w.cell? ⟨rb, 1, none⟩ = some (.int .u64 rankb)) (hb2 : w.cell? ⟨rb, 2, none⟩ = some (.int .u64 tieb)) (hbi : IntsAt w ab idb) (HNB : Hid (idb.length = nb)) (hbl : nb ≤ 16777216) :
    Calls Yba.prog 12 #[.agg #[.pointer (some ⟨ra, 0, none⟩), .int .i64 sha], .agg #[.pointer (some ⟨rb, 0, none⟩), .int .i64 shb]] w fun e w' =>
      e = .returned (.bool (lessRaw (pl na ranka sha) (pl nb rankb shb) na nb sha shb tiea tieb (cmpL ida idb))) ∧ Below w.heap.size w w' := by
  have hra : ra < w.heap.size := block_lt_of_cell ha0
  have hrb : rb < w.heap.size := block_lt_of_cell hb0
  go_enter Yba.func12, Yba.ntmps12
  go_wp2
  obtain ⟨W, hW⟩ : ∃ W, (w.alloc (.cells #[.pointer (some ⟨ra, 0, none⟩), .int .i64 sha] 33)).alloc (.cells #[.pointer (some ⟨rb, 0, none⟩), .int .i64 shb] 33) = W := ⟨_, rfl⟩
  have hBW : Below w.heap.size w W := by rw [← hW]; exact ((Below.refl _ _).alloc (Nat.le_refl _) _).alloc (by simp) _
  have ka0 : W.cell? ⟨w.heap.size, 0, none⟩ = some (.pointer (some ⟨ra, 0, none⟩)) := by rw [← hW]; simp [go_sem]
  have ka1 : W.cell? ⟨w.heap.size, 1, none⟩ = some (.int .i64 sha) := by rw [← hW]; simp [go_sem]
  have kb0 : W.cell? ⟨w.heap.size + 1, 0, none⟩ = some (.pointer (some ⟨rb, 0, none⟩)) := by rw [← hW]; simp [go_sem]
  have kb1 : W.cell? ⟨w.heap.size + 1, 1, none⟩ = some (.int .i64 shb) := by rw [← hW]; simp [go_sem]
  have Ha0 := cell_later hBW ha0
  have Ha1 := cell_later hBW ha1
  have Ha2 := cell_later hBW ha2
  have Hb0 := cell_later hBW hb0
  have Hb1 := cell_later hBW hb1
  have Hb2 := cell_later hBW hb2
  have Hai := hai.later hBW
  have Hbi := hbi.later hBW
  rw [hW]
  clear hW ha0 ha1 ha2 hb0 hb1 hb2 hai hbi hra hrb
  have cP : ∀ d os, Calls Yba.prog 14 #[.agg #[.pointer (some ⟨ra, 0, none⟩), .int .i64 sha]] (Sort.grow (redrawn W d) os) fun e w'' => e = .returned (.int .u64 (pl na ranka sha)) ∧ ∃ p : Regrown, w'' = Sort.grow (redrawn W p.d) p.os :=
    fun d os => Calls.regrown_of (place_any ra na ca aa ranka sha _ (cell_regrown Ha0 d os) (cell_regrown Ha1 d os))
  have cQ : ∀ d os, Calls Yba.prog 14 #[.agg #[.pointer (some ⟨rb, 0, none⟩), .int .i64 shb]] (Sort.grow (redrawn W d) os) fun e w'' => e = .returned (.int .u64 (pl nb rankb shb)) ∧ ∃ p : Regrown, w'' = Sort.grow (redrawn W p.d) p.os :=
    fun d os => Calls.regrown_of (place_any rb nb cb ab rankb shb _ (cell_regrown Hb0 d os) (cell_regrown Hb1 d os))
  have ga0 := cell_regrown ka0
  have ga1 := cell_regrown ka1
  have gb0 := cell_regrown kb0
  have gb1 := cell_regrown kb1
  generalize hpa : pl na ranka sha = pa at *
  generalize hpb : pl nb rankb shb = pb at *
  have HPA : Hid (pl na ranka sha = pa) := hpa
  have HPB : Hid (pl nb rankb shb = pb) := hpb
  clear hpa hpb
  refine region_below (by kernel_rfl) (by kernel_rfl) ?_
  repeat (quiet_step (first | (go_at_call_of 14 sha; exact cP _ _) | (go_at_call_of 14 shb; exact cQ _ _)))
  refine wpQuiet_nil ?_
  intro w2 hB2
  have qa0 := cell_later hB2 ka0
  have qa1 := cell_later hB2 ka1
  have qb0 := cell_later hB2 kb0
  have qb1 := cell_later hB2 kb1
  have Qa0 := cell_later hB2 Ha0
  have Qa2 := cell_later hB2 Ha2
  have Qb0 := cell_later hB2 Hb0
  have Qb2 := cell_later hB2 Hb2
  have Qai := Hai.later hB2
  have Qbi := Hbi.later hB2
  have hBB : Below w.heap.size w w2 := hBW.trans (hB2.mono hBW.size)
  clear ga0 ga1 gb0 gb1 cP cQ Ha0 Ha1 Ha2 Hb0 Hb1 Hb2 Hai Hbi ka0 ka1 kb0 kb1 hB2 hBW
  by_cases hpp : pa = pb
  · subst hpp
    go_wp2
    refine wp_region_still_tail 40 (by kernel_rfl) (by kernel_rfl) ?_
    simp only [List.take_succ_cons, List.take_zero, List.drop_succ_cons, List.drop_zero]
    have cS : ∀ wx : World, wx.heap = w2.heap → Calls Yba.prog 18 #[.slice aa na ca, .slice ab nb cb] wx fun e w' => e = .returned (.int .i64 (cmpL ida idb)) ∧ w' = wx := by
      intro wx hwx
      have := cmp_slices aa ab ca cb ida idb wx (by rw [HNA.out]; exact hal) (by rw [HNB.out]; exact hbl) (IntsAt.of_heap hwx Qai) (IntsAt.of_heap hwx Qbi)
      rw [HNA.out, HNB.out] at this
      exact this
    repeat (first | still_step | still_call (cmp_int _ _ _) | still_call (cmp_u64 _ _ _) | still_call (cS _ rfl))
    refine wpStill_nil ?_
    have HF : Hid (lessRaw (pl na ranka sha) (pl nb rankb shb) na nb sha shb tiea tieb (cmpL ida idb) = decide (orL [cmp3 na nb, cmp3 sha shb, cmp3 tiea tieb, cmpL ida idb] < 0)) := by
      show _ = _
      rw [HPA.out, HPB.out, lessRaw, if_pos rfl]
    generalize h1 : cmp3 (na : Int) (nb : Int) = c1 at *
    generalize h2 : cmp3 sha shb = c2 at *
    generalize h3 : cmp3 tiea tieb = c3 at *
    generalize h4 : cmpL ida idb = c4 at *
    have HE : Hid (cmpL ida idb = c4) := h4
    clear h1 h2 h3 h4 cS
    go_wp2_with fail
    refine (or_ints _ 4 4 [c1, c2, c3, c4] _ rfl (by omega) (four_at w2 c1 c2 c3 c4)).mono ?_
    rintro e w' ⟨rfl, rfl⟩
    generalize orL [c1, c2, c3, c4] = o at *
    go_wp2
    go_ret
    exact ⟨by rw [HE.out, HF.out]; rfl, (hBB.alloc hBB.size _).drew⟩
  · have hpb : (pa == pb) = false := by simpa using hpp
    have HF : Hid (lessRaw (pl na ranka sha) (pl nb rankb shb) na nb sha shb tiea tieb (cmpL ida idb) = decide (pa < pb)) := by
      show _ = _
      rw [HPA.out, HPB.out, lessRaw, if_neg hpp]
    go_wp2
    go_ret
    exact ⟨by rw [HF.out]; rfl, hBB⟩

theorem before_any (a b : Sl) (w : World) (ha : RecAt w a) (hb : RecAt w b) :
    Calls Yba.prog 12 #[a.val, b.val] w fun e w' => e = .returned (.bool (lessB a b)) ∧ Below w.heap.size w w' := by
  obtain ⟨aa, ca, ha0, ha1, ha2, hai, hal⟩ := ha
  obtain ⟨ab, cb, hb0, hb1, hb2, hbi, hbl⟩ := hb
  exact before_raw a.r a.ids.length ca b.r b.ids.length cb aa ab a.ids b.ids a.rank a.tie a.sh b.rank b.tie b.sh w ha0 ha1 ha2 hai (show _ = _ from rfl) hal hb0 hb1 hb2 hbi (show _ = _ from rfl) hbl
end Go.Proofs.Ybulkdjya
