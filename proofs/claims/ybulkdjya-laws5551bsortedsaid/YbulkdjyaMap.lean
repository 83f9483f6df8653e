/-
  SHARED CONTRACTS OF THIS SEAT (16): a map from records (by their addresses) to ints.
-/
import Derived.Test.YbulkdjyaPopInv
import Derived.LaidEql
import Derived.Maps.OwnOps
import Derived.MapKept
namespace Go.Proofs.Ybulkdjya
open Go.ChangeShapes Go.WideShapes Go.ChangeAt Go.RowKit
set_option linter.unusedVariables false

/-- Block r holds a record. -/
def Blk (w : World) (r : Nat) : Prop := ∃ c : Array Value, w.heap[r]? = some (.cells c 37 (0, 0))
def pk (r : Nat) : Value := .pointer (some ⟨r, 0, none⟩)
def ent (x : Nat × Int) (e : MapEntry) : Prop := e.key = pk x.1 ∧ e.val = .int .i64 x.2
/-- The map in block b has these keys and numbers. -/
def MapAt (w : World) (b : Nat) (ks : List (Nat × Int)) : Prop := ∃ es clock, w.heap[b]? = some (.map es clock) ∧ es.toList.length = ks.length ∧ ∀ (i : Nat) x, ks[i]? = some x → ∃ e, es.toList[i]? = some e ∧ ent x e

theorem Yba.size37 : (Yba.prog.info? 37).map (·.size) = some 6 := by kernel_rfl
theorem run_equal_pk {w : World} {r r' : Nat} (h1 : Blk w r) (h2 : Blk w r') : (Op.equal 31 (pk r) (pk r')).run Yba.prog w = .ok (decide (r = r')) w := by
  obtain ⟨j, hj⟩ : ∃ j, Yba.prog.info? 37 = some j := by
    have := Yba.size37
    cases h : Yba.prog.info? 37 with
    | none => rw [h] at this; cases this
    | some j => exact ⟨j, rfl⟩
  have hs : j.size ≠ 0 := by
    have := Yba.size37
    rw [hj] at this
    simp at this
    omega
  obtain ⟨c, hc⟩ := h1
  obtain ⟨c', hc'⟩ := h2
  by_cases e : r = r'
  · subst e
    have h : ∀ d : Nat, (Op.equalIn (d + 1) 31 (.pointer (some ⟨r, 0, none⟩)) (.pointer (some ⟨r, 0, none⟩))).run Yba.prog w = .ok true w := fun d => by
      simp [Op.equalIn, run_underlying Yba.underlying31, sizeOf, typeInfo, hj, run_sameAddr_same]
    rw [decide_eq_true rfl]
    exact h 9999
  · have hne : (⟨r, 0, none⟩ : Addr) ≠ ⟨r', 0, none⟩ := fun h => e (by cases h; rfl)
    have h : ∀ d : Nat, (Op.equalIn (d + 1) 31 (.pointer (some ⟨r, 0, none⟩)) (.pointer (some ⟨r', 0, none⟩))).run Yba.prog w = .ok false w := fun d => by
      simp [Op.equalIn, run_underlying Yba.underlying31, sizeOf, typeInfo, hj, hs, run_sameAddr_other w hne hc hc']
    rw [decide_eq_false e]
    exact h 9999

/-- Where the key lies. -/
def seek (r : Nat) : List (Nat × Int) → Nat → Option (Nat × Int)
  | [], _ => none
  | x :: ks, i => if r = x.1 then some (i, x.2) else seek r ks (i + 1)
theorem run_asking {w : World} {r : Nat} (hr : Blk w r) : ∀ (ks : List (Nat × Int)) (L : List MapEntry) (i : Nat), L.length = ks.length → (∀ x ∈ ks, Blk w x.1) → (∀ (i : Nat) x, ks[i]? = some x → ∃ e, L[i]? = some e ∧ ent x e) →
    (Instr.findAsking 31 (pk r) L i).run Yba.prog w = .ok ((seek r ks i).map fun p => (p.1, Value.int .i64 p.2)) w
  | [], [], i, _, _, _ => by simp [Instr.findAsking, seek]
  | x :: ks, e :: L, i, hl, hb, he => by
    obtain ⟨e', h1, h2⟩ := he 0 x rfl
    simp at h1
    subst h1
    have ih := run_asking hr ks L (i + 1) (by simpa using hl) (fun y hy => hb y (List.mem_cons_of_mem _ hy)) (fun j y hj => he (j + 1) y (by simpa using hj))
    have heq := run_equal_pk hr (hb x (List.mem_cons_self ..))
    rw [Instr.findAsking, h2.1]
    simp only [Sem.run_bind, heq, Result.andThen_ok]
    by_cases hx : r = x.1
    · simp [hx, seek, h2.2]
    · simp [hx, seek, ih]
  | [], e :: L, i, hl, _, _ => by simp at hl
  | x :: ks, [], i, hl, _, _ => by simp at hl
theorem run_findKey {w : World} {r : Nat} (hr : Blk w r) (ks : List (Nat × Int)) (L : List MapEntry) (hl : L.length = ks.length) (hb : ∀ x ∈ ks, Blk w x.1) (he : ∀ (i : Nat) x, ks[i]? = some x → ∃ e, L[i]? = some e ∧ ent x e) :
    (Instr.findKey 31 (pk r) L).run Yba.prog w = .ok ((seek r ks 0).map fun p => (p.1, Value.int .i64 p.2)) w := by
  have ha := run_asking hr ks L 0 hl hb he
  cases L with
  | nil =>
    cases ks with
    | nil => simp [Instr.findKey, run_underlying Yba.underlying31, Instr.findNow, seek]
    | cons x ks => simp at hl
  | cons e L =>
    have hn : Instr.findNow (.pointer 37) (pk r) (e :: L) 0 = none := by
      simp [Instr.findNow, Instr.sameNow]
    simp only [Instr.findKey, Sem.run_bind, run_underlying Yba.underlying31, Result.andThen_ok, hn]
    exact ha

theorem run_check_pk (w : World) (b : Bool) (r : Nat) : (Instr.checkKey b 10000 31 (pk r)).run Yba.prog w = .ok () w := by
  have h : ∀ d : Nat, (Instr.checkKey b (d + 1) 31 (.pointer (some ⟨r, 0, none⟩))).run Yba.prog w = .ok () w := fun d => by
    simp [Instr.checkKey, run_underlying Yba.underlying31]
  exact h 9999
theorem get_map {w : World} {b : Nat} {es : Array MapEntry} {clock : Nat} (h : w.heap[b]? = some (.map es clock)) : (getObj b).run Yba.prog w = .ok (.map es clock) w := by simp [getObj, Sem.run, h]
theorem set_map {w : World} {b : Nat} {es : Array MapEntry} {clock : Nat} (o : Obj) (h : w.heap[b]? = some (.map es clock)) : (setObj b o).run Yba.prog w = .ok () { w with heap := w.heap.setIfInBounds b o } := by simp [setObj, Sem.run, h]
theorem run_lookup_pk {w : World} {b r i : Nat} {c : Int} {ks : List (Nat × Int)} (hm : MapAt w b ks) (hr : Blk w r) (hb : ∀ x ∈ ks, Blk w x.1) (hs : seek r ks 0 = some (i, c)) :
    (Instr.lookup 40 (.map (some b)) (pk r) true).run Yba.prog w = .ok (.tuple #[.int .i64 c, .bool true]) w := by
  obtain ⟨es, clock, hh, hl, he⟩ := hm
  have hf := run_findKey hr ks es.toList hl hb he
  rw [hs] at hf
  simp only [Instr.lookup, Sem.run_bind, run_underlying Yba.underlying40, Result.andThen_ok, get_map hh, Sem.run_pure, run_check_pk, hf, Option.map_some, if_true]
theorem bits_pk (r : Nat) : Instr.sameBits 10000 (pk r) (pk r) = true := by
  have h : ∀ d : Nat, Instr.sameBits (d + 1) (.pointer (some ⟨r, 0, none⟩)) (.pointer (some ⟨r, 0, none⟩)) = true := fun d => by simp [Instr.sameBits]
  exact h 9999
theorem set_same {w : World} {b : Nat} {o o' : Obj} (h : w.heap[b]? = some o) : (({ w with heap := w.heap.setIfInBounds b o' } : World)).heap[b]? = some o' := by
  have hb : b < w.heap.size := by
    rcases Nat.lt_or_ge b w.heap.size with h' | h'
    · exact h'
    · rw [Array.getElem?_eq_none h'] at h; cases h
  show (w.heap.setIfInBounds b o')[b]? = _
  rw [Array.getElem?_setIfInBounds]
  simp [hb]
theorem set_wrote (w : World) (b : Nat) (o' : Obj) : Wrote b b w { w with heap := w.heap.setIfInBounds b o' } := by
  refine ⟨rfl, rfl, rfl, by simp, fun k hk h1 _ => ?_⟩
  show (w.heap.setIfInBounds b o')[k]? = _
  rw [Array.getElem?_setIfInBounds, if_neg (fun h => h1 h.symm)]
theorem run_update_new {w : World} {b r : Nat} {c : Int} {ks : List (Nat × Int)} (hm : MapAt w b ks) (hr : Blk w r) (hb : ∀ x ∈ ks, Blk w x.1) (hs : seek r ks 0 = none) :
    ∃ w', (Instr.mapUpdate 40 (.map (some b)) (pk r) (.int .i64 c)).run Yba.prog w = .ok () w' ∧ MapAt w' b (ks ++ [(r, c)]) ∧ Wrote b b w w' := by
  obtain ⟨es, clock, hh, hl, he⟩ := hm
  have hf := run_findKey hr ks es.toList hl hb he
  rw [hs] at hf
  refine ⟨_, ?_, ?_, set_wrote w b (.map (es.push { key := pk r, val := .int .i64 c, born := clock }) (clock + 1))⟩
  · simp only [Instr.mapUpdate, Sem.run_bind, run_underlying Yba.underlying40, Result.andThen_ok, get_map hh, run_check_pk, hf, Option.map_none]
    exact set_map _ hh
  · refine ⟨_, _, set_same hh, by simp [hl], ?_⟩
    intro i x hx
    rw [Array.toList_push]
    by_cases hi : i < ks.length
    · rw [List.getElem?_append_left hi] at hx
      obtain ⟨e, h1, h2⟩ := he i x hx
      exact ⟨e, by rw [List.getElem?_append_left (by omega)]; exact h1, h2⟩
    · rw [List.getElem?_append_right (by omega)] at hx
      rw [List.getElem?_append_right (by omega), hl]
      have hi0 : i - ks.length = 0 := by
        rcases Nat.eq_zero_or_pos (i - ks.length) with h | h
        · exact h
        · rw [List.getElem?_eq_none (by simp; omega)] at hx; cases hx
      rw [hi0] at hx ⊢
      simp at hx
      subst hx
      exact ⟨_, rfl, rfl, rfl⟩
theorem seek_at : ∀ {r : Nat} {ks : List (Nat × Int)} {k i : Nat} {c : Int}, seek r ks k = some (i, c) → ∃ j, i = k + j ∧ ks[j]? = some (r, c)
  | r, x :: ks, k, i, c, h => by
    rw [seek] at h
    split at h
    · rename_i e
      simp at h
      obtain ⟨rfl, rfl⟩ := h
      exact ⟨0, rfl, by simp [e]⟩
    · obtain ⟨j, h1, h2⟩ := seek_at h
      exact ⟨j + 1, by omega, by simpa using h2⟩
theorem run_update_old {w : World} {b r i : Nat} {c c' : Int} {ks : List (Nat × Int)} (hm : MapAt w b ks) (hr : Blk w r) (hb : ∀ x ∈ ks, Blk w x.1) (hs : seek r ks 0 = some (i, c')) :
    ∃ w', (Instr.mapUpdate 40 (.map (some b)) (pk r) (.int .i64 c)).run Yba.prog w = .ok () w' ∧ MapAt w' b (ks.set i (r, c)) ∧ Wrote b b w w' := by
  obtain ⟨es, clock, hh, hl, he⟩ := hm
  have hf := run_findKey hr ks es.toList hl hb he
  rw [hs] at hf
  obtain ⟨j, hj, hkj⟩ := seek_at hs
  obtain rfl : i = j := by omega
  obtain ⟨e0, g1, g2⟩ := he i _ hkj
  have hkey : ((es[i]?).map (·.key)).getD (pk r) = pk r := by
    rw [← Array.getElem?_toList, g1]
    exact g2.1
  refine ⟨_, ?_, ?_, set_wrote w b (.map (es.modify i fun e => { e with key := pk r, val := .int .i64 c }) clock)⟩
  · simp only [Instr.mapUpdate, Sem.run_bind, run_underlying Yba.underlying40, Result.andThen_ok, get_map hh, run_check_pk, hf, Option.map_some, Instr.keyThatStays, hkey, bits_pk, if_true, Sem.run_pure]
    exact set_map _ hh
  · refine ⟨_, _, set_same hh, by simp [hl], ?_⟩
    intro k x hx
    rw [Array.toList_modify, List.getElem?_modify]
    rw [List.getElem?_set] at hx
    by_cases e : i = k
    · subst e
      rw [if_pos rfl] at hx
      split at hx
      · cases hx
        rw [g1]
        refine ⟨_, rfl, ?_, ?_⟩
        · simp
        · simp
      · cases hx
    · rw [if_neg e] at hx
      obtain ⟨e1, q1, q2⟩ := he k x hx
      rw [q1]
      refine ⟨e1, ?_, q2⟩
      simp [e]

/-! ### at the operations, for the walk -/
theorem wpList_lookup_pk (w : World) {ops : Array Oper} {rest : List Oper} {o : Oper} {a : Act} {Q : Exit → Act → World → Prop} (hg : o.guard = none) (m x : Operand) (hop : o.op = Op.lookup 40 m x true)
    (b r i : Nat) (c : Int) (ks : List (Nat × Int)) (hm : a.eval m = .map (some b)) (hx : a.eval x = .pointer (some ⟨r, 0, none⟩)) (hat : MapAt w b ks) (hr : Blk w r) (hb : ∀ x ∈ ks, Blk w x.1) (hs : seek r ks 0 = some (i, c))
    (hK : wpList Yba.prog ops Q rest (a.put o.dst (.tuple #[.int .i64 c, .bool true])) w) : wpList Yba.prog ops Q (o :: rest) a w := by
  refine wpList_plain hg fun K' hK' => ?_
  have hrun := run_lookup_pk hat hr hb hs
  unfold pk at hrun
  unfold Oper.wp
  simp [execOp, hop, hm, hx, hrun, Result.andThen]
  exact hK' _ _ hK
theorem wpList_update_pk (w : World) {ops : Array Oper} {rest : List Oper} {o : Oper} {a : Act} {Q : Exit → Act → World → Prop} (hg : o.guard = none) (m x v : Operand) (hop : o.op = Op.mapUpdate 40 m x v)
    (b r : Nat) (c : Int) (ks ks' : List (Nat × Int)) (hm : a.eval m = .map (some b)) (hx : a.eval x = .pointer (some ⟨r, 0, none⟩)) (hv : a.eval v = .int .i64 c)
    (hrun : ∃ w', (Instr.mapUpdate 40 (.map (some b)) (pk r) (.int .i64 c)).run Yba.prog w = .ok () w' ∧ MapAt w' b ks' ∧ Wrote b b w w')
    (hK : ∀ w', MapAt w' b ks' → Wrote b b w w' → wpList Yba.prog ops Q rest (a.put o.dst undef) w') : wpList Yba.prog ops Q (o :: rest) a w := by
  refine wpList_plain hg fun K' hK' => ?_
  obtain ⟨w', hrun, r1, r2⟩ := hrun
  unfold pk at hrun
  unfold Oper.wp
  simp [execOp, hop, hm, hx, hv, hrun, Result.andThen]
  exact hK' _ _ (hK w' r1 r2)

/-! ### the map of all records -/
def mapL (S : List Sl) (f : Nat → Int) : List (Nat × Int) := S.map fun s => (s.r, f s.r)
theorem seek_none {S : List Sl} {f : Nat → Int} {r : Nat} (h : ∀ s ∈ S, s.r ≠ r) : ∀ k, seek r (mapL S f) k = none := by
  induction S with
  | nil => intro k; rfl
  | cons s S ih =>
    intro k
    show (if r = s.r then _ else seek r (mapL S f) (k + 1)) = none
    rw [if_neg (fun e => h s (List.mem_cons_self ..) e.symm)]
    exact ih (fun t ht => h t (List.mem_cons_of_mem _ ht)) _
theorem mapL_same {S : List Sl} {f f' : Nat → Int} (h : ∀ s ∈ S, f s.r = f' s.r) : mapL S f = mapL S f' := by
  unfold mapL
  exact List.map_congr_left fun s hs => by rw [h s hs]
def turn (f : Nat → Int) (r : Nat) (c : Int) : Nat → Int := fun x => if x = r then c else f x
theorem seek_some {S : List Sl} {f : Nat → Int} (hu : (S.map Sl.r).Pairwise (· < ·)) {s : Sl} (hs : s ∈ S) : ∀ k, ∃ i, seek s.r (mapL S f) k = some (k + i, f s.r) ∧ ∀ c, (mapL S f).set i (s.r, c) = mapL S (turn f s.r c) := by
  induction S with
  | nil => cases hs
  | cons t S ih =>
    intro k
    rw [List.map_cons, List.pairwise_cons] at hu
    by_cases e : s.r = t.r
    · refine ⟨0, ?_, ?_⟩
      · show (if s.r = t.r then some (k, f t.r) else _) = _
        rw [if_pos e, e]; rfl
      · intro c
        show (s.r, c) :: mapL S f = (t.r, turn f s.r c t.r) :: mapL S (turn f s.r c)
        have e1 : mapL S f = mapL S (turn f s.r c) := mapL_same fun u hu' => by
          have := hu.1 u.r (List.mem_map.2 ⟨u, hu', rfl⟩)
          unfold turn
          rw [if_neg (by omega)]
        rw [e1]
        unfold turn
        rw [if_pos e.symm, e]
    · have hs' : s ∈ S := by
        rcases List.mem_cons.1 hs with rfl | h
        · exact absurd rfl e
        · exact h
      obtain ⟨i, h1, h2⟩ := ih hu.2 hs' (k + 1)
      refine ⟨i + 1, ?_, ?_⟩
      · show (if s.r = t.r then _ else seek s.r (mapL S f) (k + 1)) = _
        rw [if_neg e, h1]
        congr 2
        omega
      · intro c
        show (t.r, f t.r) :: (mapL S f).set i (s.r, c) = (t.r, turn f s.r c t.r) :: mapL S (turn f s.r c)
        rw [h2 c]
        unfold turn
        rw [if_neg (fun h => e h.symm)]
theorem MapAt.of_block {w w' : World} {b : Nat} {ks : List (Nat × Int)} (h : MapAt w b ks) (hh : w'.heap[b]? = w.heap[b]?) : MapAt w' b ks := by
  obtain ⟨es, clock, h1, h2⟩ := h
  exact ⟨es, clock, by rw [hh]; exact h1, h2⟩
theorem MapAt.lt {w : World} {b : Nat} {ks : List (Nat × Int)} (h : MapAt w b ks) : b < w.heap.size := by
  obtain ⟨es, clock, h1, _⟩ := h
  rcases Nat.lt_or_ge b w.heap.size with h' | h'
  · exact h'
  · rw [Array.getElem?_eq_none h'] at h1; cases h1
theorem MapAt.wrote {w w' : World} {b x y : Nat} {ks : List (Nat × Int)} (h : MapAt w b ks) (hw : Wrote x y w w') (h1 : b ≠ x) (h2 : b ≠ y) : MapAt w' b ks := h.of_block (hw.block b h.lt h1 h2)
theorem MapAt.later {w w' : World} {b : Nat} {ks : List (Nat × Int)} (h : MapAt w b ks) (hb : Below w.heap.size w w') : MapAt w' b ks := h.of_block (hb.block b h.lt)
theorem mapAt_made (w : World) : MapAt (w.alloc (.map #[] 0)) w.heap.size [] := ⟨#[], 0, alloc_last _ _ _ rfl, rfl, fun i x h => by simp at h⟩
end Go.Proofs.Ybulkdjya
