/-
  THE PROOF OF 'Rows.LawS5551BWholeSaid' ('dolev.LawS5551BWhole'): build, clone, pop; the list that the law walks down by itself; the two read alike; no record was touched.
-/
import Derived.Test.YbulkdjyaCopy
import Derived.Test.YbulkdjyaCloneQ
import Derived.Test.YbulkdjyaLess
import Derived.Test.YbulkdjyaOpen
import Derived.Deep.DeepCutAuto
import Derived.Lib.Builder
namespace Go.Proofs.Ybulkdjya.lawS5551BWhole
open Go.ChangeShapes Go.WideShapes Go.ChangeAt Go.RowKit
set_option linter.unusedVariables false

set_option maxRecDepth 100000 in
theorem walk_out (a : Option Addr) (n cap : Nat) (w : World) (h : n = 0 ∨ 65536 < n) :
    Calls Yba.prog 3 #[.slice a n cap] w fun e w' => e = .returned (.bool true) ∧ Below w.heap.size w w' := by
  rcases h with rfl | h
  · go_enter Yba.func3, Yba.ntmps3
    go_wp2
    go_ret
    exact ⟨rfl, Below.refl _ _⟩
  · have h0 : ((n : Int) == 0) = false := beq_eq_false_iff_ne.2 (by omega)
    have h1 : (65536 : Int) < (n : Int) := by omega
    clear h
    go_enter Yba.func3, Yba.ntmps3
    go_wp2
    go_ret
    exact ⟨rfl, Below.refl _ _⟩

/-! ### the want list, on lists -/
structure WantInv (S Wl : List Sl) (m i f : Nat) : Prop where
  ls : S.length = m + 1
  len : Wl.length = m
  pos : i < m
  tail : ∀ j, i ≤ j → j < m → at_ Wl j = at_ S j
  fuel : m - i < f
  res : sift f (Wl.set i (at_ S m)) i = popL S
section
variable {S Wl : List Sl} {m i f : Nat}
theorem at_set_self {A : List Sl} {i : Nat} {s : Sl} (h : i < A.length) : at_ (A.set i s) i = s := by
  simp [at_, List.getD_eq_getElem?_getD, h]
theorem at_set_ne {A : List Sl} {i j : Nat} {s : Sl} (h : i ≠ j) : at_ (A.set i s) j = at_ A j := by
  simp [at_, List.getD_eq_getElem?_getD, List.getElem?_set_ne h]
theorem WantInv.at_i (h : WantInv S Wl m i f) : at_ (Wl.set i (at_ S m)) i = at_ S m := at_set_self (by rw [h.len]; exact h.pos)
theorem WantInv.at_c (h : WantInv S Wl m i f) {c : Nat} (h1 : i < c) (h2 : c < m) : at_ (Wl.set i (at_ S m)) c = at_ S c := by
  rw [at_set_ne (by omega)]; exact h.tail c (by omega) h2
theorem WantInv.pick1_yes (h : WantInv S Wl m i f) (h1 : 2 * i + 1 < m) (hb : lessB (at_ S (2 * i + 1)) (at_ S m) = true) : pick1 (Wl.set i (at_ S m)) i = 2 * i + 1 := by
  unfold pick1
  rw [h.at_i, h.at_c (by omega) h1, if_pos ⟨by simp [h.len]; exact h1, hb⟩]
theorem WantInv.pick1_no (h : WantInv S Wl m i f) (hb : 2 * i + 1 < m → lessB (at_ S (2 * i + 1)) (at_ S m) = false) : pick1 (Wl.set i (at_ S m)) i = i := by
  unfold pick1
  rw [if_neg]
  rintro ⟨h1, h2⟩
  rw [List.length_set, h.len] at h1
  rw [h.at_i, h.at_c (by omega) h1, hb h1] at h2
  cases h2
theorem WantInv.pick_yes (h : WantInv S Wl m i f) {f1 : Nat} {fv : Sl} (hp : pick1 (Wl.set i (at_ S m)) i = f1) (hfv : at_ (Wl.set i (at_ S m)) f1 = fv) (h1 : 2 * i + 2 < m) (hb : lessB (at_ S (2 * i + 2)) fv = true) : pick (Wl.set i (at_ S m)) i = 2 * i + 2 := by
  unfold pick
  rw [hp, hfv, h.at_c (by omega) h1, if_pos ⟨by simp [h.len]; exact h1, hb⟩]
theorem WantInv.pick_no (h : WantInv S Wl m i f) {f1 : Nat} {fv : Sl} (hp : pick1 (Wl.set i (at_ S m)) i = f1) (hfv : at_ (Wl.set i (at_ S m)) f1 = fv) (hb : 2 * i + 2 < m → lessB (at_ S (2 * i + 2)) fv = false) : pick (Wl.set i (at_ S m)) i = f1 := by
  unfold pick
  rw [hp, hfv, if_neg]
  rintro ⟨h1, h2⟩
  rw [List.length_set, h.len] at h1
  rw [h.at_c (by omega) h1, hb h1] at h2
  cases h2
theorem WantInv.fin (h : WantInv S Wl m i f) (hp : pick (Wl.set i (at_ S m)) i = i) : Wl.set i (at_ S m) = popL S := by
  have hr := h.res
  have hf := h.fuel
  obtain ⟨f', rfl⟩ : ∃ f', f = f' + 1 := ⟨f - 1, by omega⟩
  rw [sift, if_pos hp] at hr
  exact hr
theorem WantInv.step (h : WantInv S Wl m i f) {j : Nat} (hp : pick (Wl.set i (at_ S m)) i = j) (hj : i < j) (hjm : j < m) : WantInv S (Wl.set i (at_ S j)) m j (f - 1) := by
  have hr := h.res
  have hf := h.fuel
  obtain ⟨f', rfl⟩ : ∃ f', f = f' + 1 := ⟨f - 1, by omega⟩
  rw [sift, if_neg (by omega), hp] at hr
  refine ⟨h.ls, by simp [h.len], hjm, fun k h1 h2 => by rw [at_set_ne (by omega)]; exact h.tail k (by omega) h2, by simp; omega, ?_⟩
  unfold swapL at hr
  rw [h.at_i, h.at_c hj hjm, List.set_set] at hr
  exact hr
theorem want_start (hl : S.length = m + 1) (hm : 0 < m) : WantInv S (S.take m) m 0 (m + 1) := by
  refine ⟨hl, by simp; omega, hm, fun j _ h2 => by simp [at_, List.getD_eq_getElem?_getD, h2], by omega, ?_⟩
  unfold popL
  rw [hl]
  rfl
end
theorem popL_one {S : List Sl} (h : S.length = 1) : popL S = [] := by
  unfold popL
  rw [h]
  rfl

theorem Wrote.cell {g v : Nat} {w w' : World} (h : Wrote g v w w') {b o : Nat} {u : Value} (h1 : b ≠ g) (h2 : b ≠ v) (hc : w.cell? ⟨b, o, none⟩ = some u) : w'.cell? ⟨b, o, none⟩ = some u :=
  (World.cell?_of_block (w := w) (h.block b (block_lt_of_cell hc) h1 h2)).trans hc
theorem Wrote.row {g v : Nat} {w w' : World} (h : Wrote g v w w') {b : Nat} {L : List OS} (h1 : b ≠ g) (h2 : b ≠ v) (hr : Row w b L) : Row w' b L := hr.of_block (h.block b hr.lt h1 h2)
theorem Wrote.recs {g v lo hi : Nat} {w w' : World} (h : Wrote g v w w') {s : Sl} (hg : g < lo ∨ hi ≤ g) (hv : v < lo ∨ hi ≤ v) (hh : hi ≤ w.heap.size) (hr : RecIn lo hi w s) : RecIn lo hi w' s :=
  hr.keep (fun k h1 h2 => h.block k (by omega) (by omega) (by omega)) (Nat.le_refl _)

/-- What holds behind pop, in the law. -/
structure Mid (w wx : World) (g2 v m : Nat) (S : List Sl) (its : List It) : Prop where
  ls : S.length = m + 1
  itm : S.map Sl.it = its
  bel : Below w.heap.size w wx
  o1 : w.heap.size < g2
  o2 : g2 < v
  o3 : v < wx.heap.size
  rowg : Row wx w.heap.size ((popL S).map Sl.os ++ [(none, 0)])
  row2 : Row wx g2 (S.map Sl.os)
  cellv : wx.cell? ⟨v, 0, none⟩ = some (.slice (some ⟨w.heap.size, 0, none⟩) m (m + 1))
  recs : ∀ s ∈ S, RecIn (w.heap.size + 1) g2 wx s
theorem Mid.wrote {w wx wy : World} {g2 v m q : Nat} {S : List Sl} {its : List It} (h : Mid w wx g2 v m S its) (hw : Wrote q q wx wy) (hq : v < q) : Mid w wy g2 v m S its := by
  have o1 := h.o1
  have o2 := h.o2
  have o3 := h.o3
  have hs := h.bel.size
  refine ⟨h.ls, h.itm, h.bel.trans ⟨hw.os, hw.tape, hw.output, hw.size, fun k hk => hw.block k (by omega) (by omega) (by omega)⟩, o1, o2, Nat.lt_of_lt_of_le o3 hw.size, Wrote.row hw (by omega) (by omega) h.rowg, Wrote.row hw (by omega) (by omega) h.row2, Wrote.cell hw (by omega) (by omega) h.cellv, fun s hs' => Wrote.recs hw (by omega) (by omega) (by omega) (h.recs s hs')⟩
theorem Mid.later {w wx wy : World} {g2 v m : Nat} {S : List Sl} {its : List It} (h : Mid w wx g2 v m S its) (hb : Below wx.heap.size wx wy) : Mid w wy g2 v m S its := h.wrote (q := v + 1) (Wrote.of_below hb) (by omega)
theorem Wrote.setRow {g v : Nat} (w : World) (cs : Array Value) : Wrote g v w (w.setRow g cs) := ⟨rfl, rfl, rfl, by simp [World.setRow], fun k _ h1 _ => setRow_other w g k cs h1⟩
theorem row_copied {w : World} {g : Nat} {cur : Array Value} {L : List OS} (hg : w.heap[g]? = some (.cells cur 33 (0, 0))) : Row (w.setRow g (flat L ++ cur.toList.drop (flat L).length).toArray) g L := ⟨_, setRow_heap w g _ _ 33 _ hg⟩

/-- Out of build, clone and pop. -/
theorem mid_of {w w1 w2 w4 : World} {g2 m : Nat} {S : List Sl} {its : List It} (hB : Built w w1 w.heap.size (m + 1) (m + 1) its S) (hn : its.length = m + 1) (hg2 : w1.heap.size ≤ g2) (hg2' : g2 < w2.heap.size) (hw2 : w1.heap.size ≤ w2.heap.size)
    (hbe : Below w.heap.size w w2) (hr2 : Row w2 g2 (S.map Sl.os)) (hrc : ∀ s ∈ S, RecIn (w.heap.size + 1) w1.heap.size w2 s)
    (hp : Row w4 w.heap.size ((popL S).map Sl.os ++ [(none, 0)])) (hc : w4.cell? ⟨w2.heap.size, 0, none⟩ = some (.slice (some ⟨w.heap.size, 0, none⟩) m (m + 1))) (o : Obj) (hw : Wrote w.heap.size w2.heap.size (w2.alloc o) w4) : Mid w w4 g2 w2.heap.size m S its := by
  have hl := hB.row.lt
  have hb3 : Below w2.heap.size w2 (w2.alloc o) := (Below.refl _ _).alloc (Nat.le_refl _) _
  have hs3 : (w2.alloc o).heap.size = w2.heap.size + 1 := by simp
  have hsw := hw.size
  have hbs := hbe.size
  refine ⟨hB.len, ?_, ?_, by omega, hg2', by omega, hp, ?_, hc, ?_⟩
  · have := hB.its
    rw [List.take_of_length_le (by omega)] at this
    exact this
  · refine (hbe.trans (hb3.mono hbe.size)).trans ⟨hw.os, hw.tape, hw.output, hw.size, fun k hk => hw.block k (by omega) (by omega) (by omega)⟩
  · exact Wrote.row hw (by omega) (by omega) (hr2.later hb3)
  · intro s hs
    refine ((hrc s hs).keep (same_of_below hb3 hw2) hg2).keep ?_ (Nat.le_refl _)
    intro k h1 h2
    exact hw.block k (by omega) (by omega) (by omega)

theorem made_two {w1 : World} {base g n : Nat} {xs : List Value} (h : w1.ownsRow base 33 2 (.slice (some ⟨g, 0, none⟩) n n) n xs) : ∃ cur : Array Value, Hid (w1.heap[g]? = some (.cells cur 33 (0, 0))) ∧ Hid (cur.size = n * 2) := by
  obtain ⟨_, h | ⟨g', cap, cur, hv, _, hh, _, _, hs, _⟩⟩ := h
  · simp at h
  · simp at hv
    obtain ⟨rfl, rfl⟩ := hv
    exact ⟨cur, hh, hs⟩
theorem wpList_copy_slots {P : Program} {w : World} {ops : Array Oper} {rest : List Oper} {o : Oper} {a : Act} {Q : Exit → Act → World → Prop} (hgd : o.guard = none) (d s : Operand) (dT sT : TypeId)
    (ho : o.op = .call { callee := .builtin .copy, args := #[d, s], argTypes := #[dT, sT] }) (hu : P.underlying dT = some (.slice 33)) (hsz : (P.info? 33).map (·.size) = some 2)
    (g n dCap sCap : Nat) (ad : Addr) (hd : a.eval d = .slice (some ⟨g, 0, none⟩) n dCap) (hs : a.eval s = .slice (some ad) n sCap)
    (cur : Array Value) (hg : w.heap[g]? = some (.cells cur 33 (0, 0))) (hc : cur.size = n * 2) (L : List OS) (hn : (flat L).length = n * 2)
    (hsrc : ∀ j v, (flat L)[j]? = some v → w.cell? (ad.add j) = some v)
    (h : ∀ w', Row w' g L → Wrote g g w w' → wpList P ops Q rest (a.put o.dst (goInt n)) w') : wpList P ops Q (o :: rest) a w :=
  wpList_copy_two hgd d s dT sT ho 33 hu hsz g n dCap sCap ad hd hs cur 33 hg (flat L) hn hsrc (by omega) (flat_one _) (h _ (row_copied hg) (Wrote.setRow _ _))
theorem sift_length (f : Nat) (A : List Sl) (i : Nat) : (sift f A i).length = A.length := by
  induction f generalizing A i with
  | zero => rfl
  | succ f ih =>
    rw [sift]
    split
    · rfl
    · rw [ih]; simp [swapL]
theorem popL_length {S : List Sl} {m : Nat} (h : S.length = m + 1) : (popL S).length = m := by
  unfold popL
  rw [sift_length]
  simp [h]
section
variable {w wx : World} {g2 v m : Nat} {S : List Sl} {its : List It}
theorem Mid.itm_at (h : Mid w wx g2 v m S its) {k : Nat} (hk : k < m + 1) : (at_ S k).it = its.getD k zeroIt := by
  have hl : k < S.length := by rw [h.ls]; exact hk
  rw [← h.itm]
  simp [at_, List.getD_eq_getElem?_getD, List.getElem?_map, List.getElem?_eq_getElem hl]
theorem Mid.g0 (h : Mid w wx g2 v m S its) {k : Nat} (hk : k < m) : wx.cell? ⟨w.heap.size, k * 2, none⟩ = some (.pointer (some ⟨(at_ (popL S) k).r, 0, none⟩)) := by
  have := h.rowg.cell0 k (by simp [popL_length h.ls]; omega)
  rw [os_get (by rw [popL_length h.ls]; exact hk)] at this
  exact this
theorem Mid.g1 (h : Mid w wx g2 v m S its) {k : Nat} (hk : k < m) : wx.cell? ⟨w.heap.size, k * 2 + 1, none⟩ = some (.int .i64 (at_ (popL S) k).sh) := by
  have := h.rowg.cell1 k (by simp [popL_length h.ls]; omega)
  rw [os_get (by rw [popL_length h.ls]; exact hk)] at this
  exact this
theorem Mid.gm (h : Mid w wx g2 v m S its) : wx.cell? ⟨w.heap.size, m * 2, none⟩ = some (.pointer none) ∧ wx.cell? ⟨w.heap.size, m * 2 + 1, none⟩ = some (.int .i64 0) := by
  have e : ((popL S).map Sl.os ++ [((none, 0) : OS)]).getD m (none, 0) = (none, 0) := by
    simp [List.getD_eq_getElem?_getD, popL_length h.ls]
  have h0 := h.rowg.cell0 m (by simp [popL_length h.ls])
  have h1 := h.rowg.cell1 m (by simp [popL_length h.ls])
  rw [e] at h0 h1
  exact ⟨h0, h1⟩
theorem Mid.s0 (h : Mid w wx g2 v m S its) {k : Nat} (hk : k < m + 1) : wx.cell? ⟨g2, k * 2, none⟩ = some (.pointer (some ⟨(at_ S k).r, 0, none⟩)) := by
  have := h.row2.cell0 k (by simp [h.ls]; omega)
  have e := os_get (A := S) (i := k) (by rw [h.ls]; exact hk) []
  rw [List.append_nil] at e
  rw [e] at this
  exact this
theorem Mid.s1 (h : Mid w wx g2 v m S its) {k : Nat} (hk : k < m + 1) : wx.cell? ⟨g2, k * 2 + 1, none⟩ = some (.int .i64 (at_ S k).sh) := by
  have := h.row2.cell1 k (by simp [h.ls]; omega)
  have e := os_get (A := S) (i := k) (by rw [h.ls]; exact hk) []
  rw [List.append_nil] at e
  rw [e] at this
  exact this
theorem row_at {gw : Nat} (hr : Row wx gw ((popL S).map Sl.os)) (h : Mid w wx g2 v m S its) {k : Nat} (hk : k < m) : wx.cell? ⟨gw, k * 2, none⟩ = some (.pointer (some ⟨(at_ (popL S) k).r, 0, none⟩)) ∧ wx.cell? ⟨gw, k * 2 + 1, none⟩ = some (.int .i64 (at_ (popL S) k).sh) := by
  have h0 := hr.cell0 k (by simp [popL_length h.ls]; omega)
  have h1 := hr.cell1 k (by simp [popL_length h.ls]; omega)
  have e := os_get (A := popL S) (i := k) (by rw [popL_length h.ls]; exact hk) []
  rw [List.append_nil] at e
  rw [e] at h0 h1
  exact ⟨h0, h1⟩
theorem Mid.rec_at {a : Option Addr} (h : Mid w wx g2 v m S its) (hits : ItemsAt w a its) (hn : its.length = m + 1) {k : Nat} (hk : k < m + 1) : ∃ (b off r n ca cb : Nat) (ai bi : Option Addr) (rank tie : Int) (ids : List Int), a = some ⟨b, off, none⟩ ∧ ids.length = n ∧ n ≤ 16777216 ∧
    wx.cell? ⟨g2, k * 2, none⟩ = some (.pointer (some ⟨r, 0, none⟩)) ∧ wx.cell? ⟨r, 0, none⟩ = some (.slice ai n ca) ∧ wx.cell? ⟨r, 1, none⟩ = some (.int .u64 rank) ∧ wx.cell? ⟨r, 2, none⟩ = some (.int .u64 tie) ∧
    wx.cell? ⟨r, 3, none⟩ = some (.slice none 0 0) ∧ wx.cell? ⟨r, 4, none⟩ = some (.bool false) ∧ wx.cell? ⟨r, 5, none⟩ = some (.bool false) ∧
    wx.cell? ⟨b, off + k * 4, none⟩ = some (.slice bi n cb) ∧ wx.cell? ⟨b, off + k * 4 + 1, none⟩ = some (.int .u64 rank) ∧ wx.cell? ⟨b, off + k * 4 + 2, none⟩ = some (.int .u64 tie) ∧ IntsAt wx ai ids ∧ IntsAt wx bi ids := by
  obtain ⟨b, off, ha, hit⟩ := hits.later h.bel k (by rw [hn]; exact hk)
  obtain ⟨bi, cb, i0, i1, i2, i3, hbi, _⟩ := hit
  have hm := h.itm_at hk
  have hs : at_ S k ∈ S := at_mem (by rw [h.ls]; exact hk)
  obtain ⟨_, _, ⟨ai, ca, r0, r1, r2, hai, hl⟩, r3, r4, r5⟩ := h.recs _ hs
  rw [← hm] at i0 i1 i2 hbi
  exact ⟨b, off, (at_ S k).r, _, ca, cb, ai, bi, _, _, (at_ S k).ids, ha, rfl, hl, h.s0 hk, r0, r1, r2, r3, r4, r5, i0, i1, i2, hai.at, hbi⟩
end

/-- What holds in the want loop. -/
structure In (w wr : World) (g2 v gw bx m : Nat) (S Wl : List Sl) (its : List It) (i f : Nat) : Prop where
  mid : Mid w wr g2 v m S its
  row : Row wr gw (Wl.map Sl.os)
  want : WantInv S Wl m i f
  x0 : wr.cell? ⟨bx, 0, none⟩ = some (.pointer (some ⟨(at_ S m).r, 0, none⟩))
  x1 : wr.cell? ⟨bx, 1, none⟩ = some (.int .i64 (at_ S m).sh)
  o1 : v < gw
  o2 : gw < bx
  o3 : bx < wr.heap.size
section
variable {w wr wy : World} {g2 v gw bx m i f : Nat} {S Wl : List Sl} {its : List It}
theorem In.fv (h : In w wr g2 v gw bx m S Wl its i f) {bf : Nat} (hb : bx < bf) (hw : Wrote bf bf wr wy) : In w wy g2 v gw bx m S Wl its i f := by
  have := h.o1
  have := h.o2
  exact ⟨h.mid.wrote hw (by omega), Wrote.row hw (by omega) (by omega) h.row, h.want, Wrote.cell hw (by omega) (by omega) h.x0, Wrote.cell hw (by omega) (by omega) h.x1, h.o1, h.o2, Nat.lt_of_lt_of_le h.o3 hw.size⟩
theorem In.later (h : In w wr g2 v gw bx m S Wl its i f) (hb : Below wr.heap.size wr wy) : In w wy g2 v gw bx m S Wl its i f := h.fv (bf := bx + 1) (by omega) (Wrote.of_below hb)
theorem In.fin (h : In w wr g2 v gw bx m S Wl its i f) (hp : pick (Wl.set i (at_ S m)) i = i) :
    Mid w ((wr.setCell ⟨gw, i * 2, none⟩ (.pointer (some ⟨(at_ S m).r, 0, none⟩))).setCell ⟨gw, i * 2 + 1, none⟩ (.int .i64 (at_ S m).sh)) g2 v m S its ∧
    Row ((wr.setCell ⟨gw, i * 2, none⟩ (.pointer (some ⟨(at_ S m).r, 0, none⟩))).setCell ⟨gw, i * 2 + 1, none⟩ (.int .i64 (at_ S m).sh)) gw ((popL S).map Sl.os) := by
  have r := h.row.store i (by rw [List.length_map, h.want.len]; exact h.want.pos) (at_ S m).os
  refine ⟨h.mid.wrote (q := gw) ((Wrote.set _ _ _).trans (Wrote.set _ _ _)) h.o1, ?_⟩
  rw [← h.want.fin hp, List.map_set]
  exact r
theorem In.step (h : In w wr g2 v gw bx m S Wl its i f) {j : Nat} (hp : pick (Wl.set i (at_ S m)) i = j) (hj : i < j) (hjm : j < m) :
    In w ((wr.setCell ⟨gw, i * 2, none⟩ (.pointer (some ⟨(at_ S j).r, 0, none⟩))).setCell ⟨gw, i * 2 + 1, none⟩ (.int .i64 (at_ S j).sh)) g2 v gw bx m S (Wl.set i (at_ S j)) its j (f - 1) := by
  have r := h.row.store i (by rw [List.length_map, h.want.len]; exact h.want.pos) (at_ S j).os
  have hw : Wrote gw gw wr ((wr.setCell ⟨gw, i * 2, none⟩ (.pointer (some ⟨(at_ S j).r, 0, none⟩))).setCell ⟨gw, i * 2 + 1, none⟩ (.int .i64 (at_ S j).sh)) := (Wrote.set _ _ _).trans (Wrote.set _ _ _)
  have o2 := h.o2
  refine ⟨h.mid.wrote (q := gw) hw h.o1, ?_, h.want.step hp hj hjm, Wrote.cell hw (by omega) (by omega) h.x0, Wrote.cell hw (by omega) (by omega) h.x1, h.o1, o2, Nat.lt_of_lt_of_le h.o3 hw.size⟩
  rw [List.map_set]
  exact r
theorem In.recd (h : In w wr g2 v gw bx m S Wl its i f) {k : Nat} (hk : k < m + 1) : RecAt wr (at_ S k) := (h.mid.recs _ (at_mem (by rw [h.mid.ls]; exact hk))).at
theorem In.less (h : In w wr g2 v gw bx m S Wl its i f) {j k : Nat} (hj : j < m) (hk : k < m + 1) (d : Nat) (os : Array Obj) :
    Calls Yba.prog 8 #[.agg #[.pointer (some ⟨(at_ S j).r, 0, none⟩), .int .i64 (at_ S j).sh], .agg #[.pointer (some ⟨(at_ S k).r, 0, none⟩), .int .i64 (at_ S k).sh]] (Sort.grow (redrawn wr d) os)
      fun e w'' => e = .returned (.bool (lessB (at_ S j) (at_ S k))) ∧ ∃ p : Regrown, w'' = Sort.grow (redrawn wr p.d) p.os :=
  Calls.regrown_of (less_any (at_ S j) (at_ S k) _ ((h.recd (by omega)).later (below_regrown wr d os)) ((h.recd hk).later (below_regrown wr d os)))
end
theorem fv_cells (w : World) (x y : Value) : (w.alloc (Obj.cells #[x, y] 33)).cell? ⟨w.heap.size, 0, none⟩ = some x ∧ (w.alloc (Obj.cells #[x, y] 33)).cell? ⟨w.heap.size, 1, none⟩ = some y ∧
    (∀ o, (w.alloc (Obj.cells #[x, y] 33)).frozen? ⟨w.heap.size, o, none⟩ = false) ∧ Below w.heap.size w (w.alloc (Obj.cells #[x, y] 33)) := by
  refine ⟨by simp [go_sem], by simp [go_sem], fun o => by simp [go_sem], (Below.refl _ _).alloc (Nat.le_refl _) _⟩

theorem Yba.some37 : (Yba.prog.info? 37).isSome = true := by kernel_rfl
theorem Yba.size33 : (Yba.prog.info? 33).map (·.size) = some 2 := by kernel_rfl
set_option maxRecDepth 100000 in
set_option maxHeartbeats 4000000 in
theorem walk_in (a : Option Addr) (m cap : Nat) (its : List It) (w : World) (hn : its.length = m + 1) (hm : m < 65536) (hits : ItemsAt w a its) (hlens : ∀ it ∈ its, it.ids.length ≤ 140737488355328) :
    Calls Yba.prog 3 #[.slice a (m + 1) cap] w fun e w' => e = .returned (.bool true) ∧ Below w.heap.size w w' := by
  have HN : Hid (its.length = m + 1) := hn
  have HLN : Hid (∀ it ∈ its, it.ids.length ≤ 140737488355328) := hlens
  clear hn hlens
  have hz : (((m : Int) + 1) == 0) = false := beq_eq_false_iff_ne.2 (by omega)
  have hd : decide ((65536 : Int) < (m : Int) + 1) = false := decide_eq_false (by omega)
  go_enter Yba.func3, Yba.ntmps3
  go_wp2
  go_loop [3, 30] (fun s t => ∃ k T : Nat, k ≤ m + 1 ∧ t = .int .i64 k ∧ s = .int .i64 T ∧ T ≤ 1048576 ∧ Hid (∀ j, j < k → (its.getD j zeroIt).ids.length ≤ 1048576)) (fun _ t => m + 1 - (intOf t).toNat)
  case atStart => exact ⟨0, 0, Nat.zero_le _, rfl, rfl, by omega, (fun j hj => by omega)⟩
  case round =>
    obtain ⟨k, T, hk, rfl, rfl, hT, HT⟩ := hrel
    by_cases hlt : k < m + 1
    · obtain ⟨b, off, rfl, hit⟩ := hits k (by rw [HN.out]; exact hlt)
      have HL1 : Hid ((its.getD k zeroIt).ids.length ≤ 140737488355328) := by
        have hkl : k < its.length := by rw [HN.out]; exact hlt
        rw [List.getD_eq_getElem?_getD, List.getElem?_eq_getElem hkl]
        exact HLN.out _ (List.getElem_mem hkl)
      obtain ⟨ai, ci, c0, _⟩ := hit
      have HKK : Hid (∀ j, j < k + 1 → (its.getD k zeroIt).ids.length ≤ 1048576 → (its.getD j zeroIt).ids.length ≤ 1048576) := by
        intro j hj h1
        by_cases e : j = k
        · rw [e]; exact h1
        · exact HT.out j (by omega)
      generalize (its.getD k zeroIt).ids.length = L at *
      have hL := HL1.out
      by_cases hbig : 1048576 < T + L
      · go_wp2
        go_ret
        exact ⟨rfl, Below.refl _ _⟩
      · go_wp2
        go_round
        case rel => exact ⟨k + 1, T + L, by omega, by go_num, by go_num, by omega, (fun j hj => HKK.out j hj (by omega))⟩
        case measure => simp [intOf]; omega
    · have HLL : Hid (∀ it ∈ its, it.ids.length ≤ 1048576) := by
        intro it hit
        obtain ⟨j, hj, rfl⟩ := List.mem_iff_getElem.1 hit
        have := HT.out j (by have := HN.out; omega)
        rw [List.getD_eq_getElem?_getD, List.getElem?_eq_getElem hj] at this
        exact this
      clear HT
      go_wp2_with fail
      refine (build_any a (m + 1) cap its _ HN.out (by omega) (fun it h => by have := HLL.out it h; omega) hits).mono ?_
      rintro e w1 ⟨rfl, S, hB⟩
      have HB : Hid (Built w w1 w.heap.size (m + 1) (m + 1) its S) := hB
      have hrow1 : Row w1 w.heap.size (S.map Sl.os) := by have := hB.row; rw [Nat.sub_self, List.replicate_zero, List.append_nil] at this; exact this
      have HLS : Hid (S.length = m + 1) := hB.len
      clear hB
      go_wp2_with fail
      refine (cloneq_any w.heap.size (m + 1) (m + 1) (S.map Sl.os) _ (by rw [List.length_map]; exact HLS.out) (by omega) hrow1).mono ?_
      rintro e w2 ⟨g2, c2, rfl, hc2, hg2, hrow2, hb2⟩
      have HR1 : Hid (Row w2 w.heap.size (S.map Sl.os)) := hrow1.later hb2
      have HR2 : Hid (Row w2 g2 (S.map Sl.os)) := hrow2
      have HRC : Hid (∀ s ∈ S, RecIn (w.heap.size + 1) w1.heap.size w2 s) := fun s hs => (HB.out.recs s hs).keep (same_of_below hb2 (Nat.le_refl _)) (Nat.le_refl _)
      have hw1 : w.heap.size < w1.heap.size := hrow1.lt
      have HW2 : Hid (w1.heap.size ≤ w2.heap.size) := hb2.size
      have HG2 : Hid (g2 < w2.heap.size) := hrow2.lt
      have HBE : Hid (Below w.heap.size w w2) := HB.out.below.trans (hb2.mono HB.out.below.size)
      clear hrow1 hrow2 hb2
      go_wp2_with fail
      have hv3 : (w2.alloc (Obj.cells #[Value.slice (some ⟨w.heap.size, 0, none⟩) (m + 1) (m + 1)] 28)).cell? ⟨w2.heap.size, 0, none⟩ = some (.slice (some ⟨w.heap.size, 0, none⟩) (m + 1) (m + 1)) := by simp [go_sem]
      have hf3 : (w2.alloc (Obj.cells #[Value.slice (some ⟨w.heap.size, 0, none⟩) (m + 1) (m + 1)] 28)).frozen? ⟨w2.heap.size, 0, none⟩ = false := by simp [go_sem]
      have hb3 : Below w2.heap.size w2 (w2.alloc (Obj.cells #[Value.slice (some ⟨w.heap.size, 0, none⟩) (m + 1) (m + 1)] 28)) := (Below.refl _ _).alloc (Nat.le_refl _) _
      refine (pop_any w2.heap.size w.heap.size m (m + 1) (w.heap.size + 1) w1.heap.size S _ HLS.out (by omega) (Nat.le_refl _) ⟨by omega, by have := HW2.out; simp; omega, by have := HW2.out; omega, by have := HW2.out; omega, by simp⟩ (HR1.out.later hb3) (fun s hs => (HRC.out s hs).keep (same_of_below hb3 HW2.out) (Nat.le_refl _)) hv3 hf3).mono ?_
      rintro e w4 ⟨rfl, hp4, hc4, hf4, hw4⟩
      have HM : Hid (Mid w w4 g2 w2.heap.size m S its) := mid_of HB.out HN.out hg2 HG2.out HW2.out HBE.out HR2.out HRC.out hp4 hc4 _ hw4
      clear HB HR1 HR2 HRC HW2 HG2 HBE hv3 hf3 hb3 hp4 hc4 hf4 hw4 hg2 hw1 HLS
      generalize hvv : w2.heap.size = v at *
      clear hvv
      obtain ⟨i0, hi0, hz0, hz1, hz2⟩ := info_parts Yba.info33
      have HSRC : Hid (∀ (wx : World), Mid w wx g2 v m S its → ∀ (j : Nat) (u : Value), (flat ((S.map Sl.os).take m))[j]? = some u → wx.cell? ((⟨g2, 0, none⟩ : Addr).add j) = some u) := by
        intro wx hx
        have hr := hx.row2
        rw [← List.take_append_drop m (S.map Sl.os)] at hr
        exact hr.front.cells
      have HCL : Hid ((flat ((S.map Sl.os).take m)).length = m * 2) := by
        show _ = _
        rw [flat_length, List.length_take, List.length_map, HM.out.ls, Nat.min_eq_left (by omega)]
      generalize hX : (S.map Sl.os).take m = X at *
      have HX : Hid ((S.map Sl.os).take m = X) := hX
      clear hX
      go_upto_if 62 with (first
        | (at_make; refine wpList_make_full _ rfl (.tmp 54) (.tmp 54) 27 rfl w4.heap.size 33 i0 (.agg #[.pointer none, .int .i64 0]) 2 Yba.underlying27 hi0 hz0 hz1 _ _ _ _ m rfl rfl rfl rfl (by rw [hz2]; omega) (by unfold maxLen; omega) (Nat.le_refl _) ?_; intro w5 hown hgrow; obtain ⟨cur, hcur, hcs⟩ := made_two hown; have HM5 : Hid (Mid w w5 g2 v m S its) := HM.out.later ((Below.refl _ _).grown hgrow (Nat.le_refl _) (fun k h => by cases h)); clear hown hgrow)
        | (refine wpList_copy_slots rfl (.tmp 56) (.tmp 59) 27 28 rfl Yba.underlying27 Yba.size33 w4.heap.size m m c2 ⟨g2, 0, none⟩ rfl rfl cur hcur.out hcs.out X HCL.out (HSRC.out _ HM5.out) ?_; intro w6 hrow6 hwr6; have HM6 : Hid (Mid w w6 g2 v m S its) := Mid.wrote HM5.out hwr6 HM.out.o3; clear HM5 hcur hcs hwr6))
      have hvg : v < w4.heap.size := HM.out.o3
      generalize w4.heap.size = gw at *
      clear HM hi0 hz0 hz1 hz2 HSRC HCL
      go_cut [] (fun wx => Hid (Mid w wx g2 v m S its) ∧ Hid (Row wx gw ((popL S).map Sl.os)))
      case first =>
        rcases Nat.eq_zero_or_pos m with rfl | hm0
        · have HRR : Hid (Row w6 gw ((popL S).map Sl.os)) := by
            rw [popL_one (by rw [HM6.out.ls])]
            have := hrow6
            rw [← HX.out, List.take_zero] at this
            exact this
          clear hrow6
          go_wp2
          go_meet
          case rel => exact ⟨HM6, HRR⟩
        · have hmI : decide ((0 : Int) < (m : Int)) = true := decide_eq_true (by omega)
          obtain ⟨WW, hWI, hRW⟩ : ∃ Wl, WantInv S Wl m 0 (m + 1) ∧ Row w6 gw (Wl.map Sl.os) := ⟨S.take m, want_start HM6.out.ls hm0, by rw [List.map_take, HX.out]; exact hrow6⟩
          have HIN : Hid (In w (w6.alloc (Obj.cells #[.pointer (some ⟨(at_ S m).r, 0, none⟩), .int .i64 (at_ S m).sh] 33)) g2 v gw w6.heap.size m S WW its 0 (m + 1)) := by
            obtain ⟨e0, e1, _, eb⟩ := fv_cells w6 (.pointer (some ⟨(at_ S m).r, 0, none⟩)) (.int .i64 (at_ S m).sh)
            exact ⟨HM6.out.later eb, hRW.later eb, hWI, e0, e1, hvg, hRW.lt, by simp⟩
          clear hWI hRW hrow6 HX
          have s0 := HM6.out.s0 (k := m) (by omega)
          have s1 := HM6.out.s1 (k := m) (by omega)
          go_wp2
          generalize w6.heap.size = bx at *
          clear s0 s1 HM6
          go_loopw [12] (fun t wr => ∃ i : Nat, t = .int .i64 i ∧ Hid (∃ Wl f, In w wr g2 v gw bx m S Wl its i f)) (fun t _ => m + 1 - (intOf t).toNat)
          case atStart => exact ⟨0, rfl, ⟨_, _, HIN.out⟩⟩
          case round =>
            obtain ⟨i, rfl, HR⟩ := hrel
            clear HIN
            obtain ⟨Wl, f, hI⟩ := HR.out
            clear HR
            have him : i < m := hI.want.pos
            have himI : decide ((i : Int) < (m : Int)) = true := decide_eq_true (by omega)
            have hX0 := hI.x0
            have hX1 := hI.x1
            obtain ⟨f0, f1, ffz, fb⟩ := fv_cells wr (.pointer (some ⟨(at_ S m).r, 0, none⟩)) (.int .i64 (at_ S m).sh)
            have HI1 : Hid (In w (wr.alloc (Obj.cells #[.pointer (some ⟨(at_ S m).r, 0, none⟩), .int .i64 (at_ S m).sh] 33)) g2 v gw bx m S Wl its i f) := hI.later fb
            have hbf : bx < wr.heap.size := hI.o3
            clear hI fb
            by_cases h1 : 2 * i + 1 < m
            · obtain ⟨c, hc⟩ : ∃ c : Nat, c = 2 * i + 1 := ⟨_, rfl⟩
              have hcm : c < m := by omega
              have hcI : 2 * (i : Int) + 1 = (c : Int) := by omega
              have hcI2 : decide ((c : Int) < (m : Int)) = true := decide_eq_true (by omega)
              have hcI3 : (c : Int) < (m : Int) + 1 := by omega
              have hic : i < c := by omega
              have HC : Hid (c = 2 * i + 1) := hc
              have kc0 := HI1.out.mid.s0 (k := c) (by omega)
              have kc1 := HI1.out.mid.s1 (k := c) (by omega)
              have gc0 := cell_regrown kc0
              have gc1 := cell_regrown kc1
              have gf0 := cell_regrown f0
              have gf1 := cell_regrown f1
              have cB := HI1.out.less (j := c) (k := m) hcm (by omega)
              have HY : Hid (lessB (at_ S c) (at_ S m) = true → pick1 (Wl.set i (at_ S m)) i = c ∧ at_ (Wl.set i (at_ S m)) c = at_ S c) := by
                intro hb
                have := WantInv.pick1_yes HI1.out.want h1 (by rw [← hc]; exact hb)
                exact ⟨by rw [this, hc], HI1.out.want.at_c hic hcm⟩
              have HNo : Hid (lessB (at_ S c) (at_ S m) = false → pick1 (Wl.set i (at_ S m)) i = i) := by
                intro hb
                exact WantInv.pick1_no HI1.out.want (fun _ => by rw [← hc]; exact hb)
              have HAI : Hid (at_ (Wl.set i (at_ S m)) i = at_ S m) := HI1.out.want.at_i
              have hbl : wr.heap.size < (wr.alloc (Obj.cells #[.pointer (some ⟨(at_ S m).r, 0, none⟩), .int .i64 (at_ S m).sh] 33)).heap.size := by simp
              generalize lessB (at_ S c) (at_ S m) = bb at *
              clear hc kc0 kc1 h1
              go_wp2
              generalize (wr.alloc (Obj.cells #[.pointer (some ⟨(at_ S m).r, 0, none⟩), .int .i64 (at_ S m).sh] 33)) = W1 at *
              generalize wr.heap.size = bf at *
              refine region_below (by kernel_rfl) (by kernel_rfl) ?_
              repeat (first | go_big_quiet_step (exact cB _ _) | quiet_step (exact cB _ _))
              refine wpQuiet_nil ?_
              intro w2 hB2
              have HI2 : Hid (In w w2 g2 v gw bx m S Wl its i f) := HI1.out.later hB2
              have e0 := cell_later hB2 f0
              have e1 := cell_later hB2 f1
              have efz0 := frozen_later hB2 f0 (ffz 0)
              have efz1 := frozen_later hB2 f1 (ffz 1)
              clear gc0 gc1 gf0 gf1 cB hB2 HI1 f0 f1 ffz hbl
              cases bb
              · have HP1 : Hid (pick1 (Wl.set i (at_ S m)) i = i) := HNo.out rfl
                have HFV : Hid (at_ (Wl.set i (at_ S m)) i = at_ S m) := HAI
                clear HY HNo efz0 efz1
                by_cases h2 : 2 * i + 2 < m
                · obtain ⟨e, he⟩ : ∃ e : Nat, e = 2 * i + 2 := ⟨_, rfl⟩
                  have hem : e < m := by omega
                  have heI : 2 * (i : Int) + 2 = (e : Int) := by omega
                  have heI2 : decide ((e : Int) < (m : Int)) = true := decide_eq_true (by omega)
                  have heI3 : (e : Int) < (m : Int) + 1 := by omega
                  have hie : i < e := by omega
                  have HE : Hid (e = 2 * i + 2) := he
                  have ke0 := HI2.out.mid.s0 (k := e) (by omega)
                  have ke1 := HI2.out.mid.s1 (k := e) (by omega)
                  have ge0 := cell_regrown ke0
                  have ge1 := cell_regrown ke1
                  have gf0 := cell_regrown e0
                  have gf1 := cell_regrown e1
                  have cB := HI2.out.less (j := e) (k := m) hem (by omega)
                  have HY : Hid (lessB (at_ S e) (at_ S m) = true → pick (Wl.set i (at_ S m)) i = e) := by
                    intro hb
                    have := WantInv.pick_yes HI2.out.want HP1.out HFV.out (by omega) (by rw [← he]; exact hb)
                    rw [this, he]
                  have HNo : Hid (lessB (at_ S e) (at_ S m) = false → pick (Wl.set i (at_ S m)) i = i) := by
                    intro hb
                    exact WantInv.pick_no HI2.out.want HP1.out HFV.out (fun _ => by rw [← he]; exact hb)
                  generalize lessB (at_ S e) (at_ S m) = bb2 at *
                  clear he ke0 ke1 h2
                  go_wp2
                  refine region_below (by kernel_rfl) (by kernel_rfl) ?_
                  repeat (first | go_big_quiet_step (exact cB _ _) | quiet_step (exact cB _ _))
                  refine wpQuiet_nil ?_
                  intro w3 hB3
                  have HI3 : Hid (In w w3 g2 v gw bx m S Wl its i f) := HI2.out.later hB3
                  clear ge0 ge1 gf0 gf1 cB hB3 e0 e1
                  cases bb2
                  · have HPK : Hid (pick (Wl.set i (at_ S m)) i = i) := HNo.out rfl
                    clear HY HNo
                    have x0 := HI3.out.x0
                    have x1 := HI3.out.x1
                    have y0 := HI3.out.row.cell0 i (by rw [List.length_map, HI3.out.want.len]; exact him)
                    have y1 := HI3.out.row.cell1 i (by rw [List.length_map, HI3.out.want.len]; exact him)
                    obtain ⟨z0, y0⟩ : ∃ z, World.cell? _ ⟨gw, i * 2, none⟩ = some z := ⟨_, y0⟩
                    obtain ⟨z1, y1⟩ : ∃ z, World.cell? _ ⟨gw, i * 2 + 1, none⟩ = some z := ⟨_, y1⟩
                    have hfz := HI3.out.row.frozen
                    go_wp2
                    go_meet
                    case rel =>
                      obtain ⟨q1, q2⟩ := (HI3.out).fin HPK.out
                      exact ⟨q1, q2⟩
                  · have HPK : Hid (pick (Wl.set i (at_ S m)) i = e) := HY.out rfl
                    clear HY HNo
                    have hjm : e < m := by omega
                    have hij : i < e := by omega
                    have hjI : (e : Int) < (m : Int) + 1 := by omega
                    have hne : ((e : Int) == (i : Int)) = false := beq_eq_false_iff_ne.2 (by omega)
                    have s0 := HI3.out.mid.s0 (k := e) (by omega)
                    have s1 := HI3.out.mid.s1 (k := e) (by omega)
                    have y0 := HI3.out.row.cell0 i (by rw [List.length_map, HI3.out.want.len]; exact him)
                    have y1 := HI3.out.row.cell1 i (by rw [List.length_map, HI3.out.want.len]; exact him)
                    obtain ⟨z0, y0⟩ : ∃ z, World.cell? _ ⟨gw, i * 2, none⟩ = some z := ⟨_, y0⟩
                    obtain ⟨z1, y1⟩ : ∃ z, World.cell? _ ⟨gw, i * 2 + 1, none⟩ = some z := ⟨_, y1⟩
                    have hfz := HI3.out.row.frozen
                    go_wp2
                    go_roundw
                    case rel => exact ⟨e, rfl, ⟨_, _, (HI3.out).step HPK.out hij hjm⟩⟩
                    case measure => simp [intOf]; omega
                · have hd2 : decide (2 * (i : Int) + 2 < (m : Int)) = false := decide_eq_false (by omega)
                  have HPK : Hid (pick (Wl.set i (at_ S m)) i = i) := WantInv.pick_no HI2.out.want HP1.out HFV.out (fun h => absurd h h2)
                  clear e0 e1
                  go_wp2
                  go_quiet (fail)
                  have x0 := HI2.out.x0
                  have x1 := HI2.out.x1
                  have y0 := HI2.out.row.cell0 i (by rw [List.length_map, HI2.out.want.len]; exact him)
                  have y1 := HI2.out.row.cell1 i (by rw [List.length_map, HI2.out.want.len]; exact him)
                  obtain ⟨z0, y0⟩ : ∃ z, World.cell? _ ⟨gw, i * 2, none⟩ = some z := ⟨_, y0⟩
                  obtain ⟨z1, y1⟩ : ∃ z, World.cell? _ ⟨gw, i * 2 + 1, none⟩ = some z := ⟨_, y1⟩
                  have hfz := HI2.out.row.frozen
                  go_wp2
                  go_meet
                  case rel =>
                    obtain ⟨q1, q2⟩ := (HI2.out.later (below_drew2 w2 _)).fin HPK.out
                    exact ⟨q1, q2⟩
              · obtain ⟨hp1, hfv⟩ := HY.out rfl
                have HP1 : Hid (pick1 (Wl.set i (at_ S m)) i = c) := hp1
                have HFV : Hid (at_ (Wl.set i (at_ S m)) c = at_ S c) := hfv
                clear HY HNo HAI hp1 hfv
                have kc0 := HI2.out.mid.s0 (k := c) (by omega)
                have kc1 := HI2.out.mid.s1 (k := c) (by omega)
                go_upto_region 29 with fail
                have hwf : Wrote bf bf w2 ((w2.setCell ⟨bf, 0, none⟩ (.pointer (some ⟨(at_ S c).r, 0, none⟩))).setCell ⟨bf, 1, none⟩ (.int .i64 (at_ S c).sh)) := (Wrote.set _ _ _).trans (Wrote.set _ _ _)
                have HI2' : Hid (In w ((w2.setCell ⟨bf, 0, none⟩ (.pointer (some ⟨(at_ S c).r, 0, none⟩))).setCell ⟨bf, 1, none⟩ (.int .i64 (at_ S c).sh)) g2 v gw bx m S Wl its i f) := HI2.out.fv hbf hwf
                have v0 : ((w2.setCell ⟨bf, 0, none⟩ (.pointer (some ⟨(at_ S c).r, 0, none⟩))).setCell ⟨bf, 1, none⟩ (.int .i64 (at_ S c).sh)).cell? ⟨bf, 0, none⟩ = some (.pointer (some ⟨(at_ S c).r, 0, none⟩)) := by
                  rw [World.cell?_setCell_other _ _ _ _ (by simp)]
                  exact World.cell?_setCell_same w2 _ _ e0
                have v1 : ((w2.setCell ⟨bf, 0, none⟩ (.pointer (some ⟨(at_ S c).r, 0, none⟩))).setCell ⟨bf, 1, none⟩ (.int .i64 (at_ S c).sh)).cell? ⟨bf, 1, none⟩ = some (.int .i64 (at_ S c).sh) := by
                  have e1' : (w2.setCell ⟨bf, 0, none⟩ (.pointer (some ⟨(at_ S c).r, 0, none⟩))).cell? ⟨bf, 1, none⟩ = some (.int .i64 (at_ S m).sh) := by
                    rw [World.cell?_setCell_other _ _ _ _ (by simp)]
                    exact e1
                  exact World.cell?_setCell_same _ _ _ e1'
                clear hwf e0 e1 efz0 efz1 kc0 kc1 HI2
                generalize ((w2.setCell ⟨bf, 0, none⟩ (.pointer (some ⟨(at_ S c).r, 0, none⟩))).setCell ⟨bf, 1, none⟩ (.int .i64 (at_ S c).sh)) = W2 at *
                by_cases h2 : 2 * i + 2 < m
                · obtain ⟨e, he⟩ : ∃ e : Nat, e = 2 * i + 2 := ⟨_, rfl⟩
                  have hem : e < m := by omega
                  have heI : 2 * (i : Int) + 2 = (e : Int) := by omega
                  have heI2 : decide ((e : Int) < (m : Int)) = true := decide_eq_true (by omega)
                  have heI3 : (e : Int) < (m : Int) + 1 := by omega
                  have hie : i < e := by omega
                  have HE : Hid (e = 2 * i + 2) := he
                  have ke0 := HI2'.out.mid.s0 (k := e) (by omega)
                  have ke1 := HI2'.out.mid.s1 (k := e) (by omega)
                  have ge0 := cell_regrown ke0
                  have ge1 := cell_regrown ke1
                  have gf0 := cell_regrown v0
                  have gf1 := cell_regrown v1
                  have cB := HI2'.out.less (j := e) (k := c) hem (by omega)
                  have HY : Hid (lessB (at_ S e) (at_ S c) = true → pick (Wl.set i (at_ S m)) i = e) := by
                    intro hb
                    have := WantInv.pick_yes HI2'.out.want HP1.out HFV.out (by omega) (by rw [← he]; exact hb)
                    rw [this, he]
                  have HNo : Hid (lessB (at_ S e) (at_ S c) = false → pick (Wl.set i (at_ S m)) i = c) := by
                    intro hb
                    exact WantInv.pick_no HI2'.out.want HP1.out HFV.out (fun _ => by rw [← he]; exact hb)
                  generalize lessB (at_ S e) (at_ S c) = bb2 at *
                  clear he ke0 ke1 h2
                  go_wp2
                  refine region_below (by kernel_rfl) (by kernel_rfl) ?_
                  repeat (first | go_big_quiet_step (exact cB _ _) | quiet_step (exact cB _ _))
                  refine wpQuiet_nil ?_
                  intro w3 hB3
                  have HI3 : Hid (In w w3 g2 v gw bx m S Wl its i f) := HI2'.out.later hB3
                  clear ge0 ge1 gf0 gf1 cB hB3 v0 v1
                  cases bb2
                  · have HPK : Hid (pick (Wl.set i (at_ S m)) i = c) := HNo.out rfl
                    clear HY HNo
                    have hjm : c < m := by omega
                    have hij : i < c := by omega
                    have hjI : (c : Int) < (m : Int) + 1 := by omega
                    have hne : ((c : Int) == (i : Int)) = false := beq_eq_false_iff_ne.2 (by omega)
                    have s0 := HI3.out.mid.s0 (k := c) (by omega)
                    have s1 := HI3.out.mid.s1 (k := c) (by omega)
                    have y0 := HI3.out.row.cell0 i (by rw [List.length_map, HI3.out.want.len]; exact him)
                    have y1 := HI3.out.row.cell1 i (by rw [List.length_map, HI3.out.want.len]; exact him)
                    obtain ⟨z0, y0⟩ : ∃ z, World.cell? _ ⟨gw, i * 2, none⟩ = some z := ⟨_, y0⟩
                    obtain ⟨z1, y1⟩ : ∃ z, World.cell? _ ⟨gw, i * 2 + 1, none⟩ = some z := ⟨_, y1⟩
                    have hfz := HI3.out.row.frozen
                    go_wp2
                    go_roundw
                    case rel => exact ⟨c, rfl, ⟨_, _, (HI3.out).step HPK.out hij hjm⟩⟩
                    case measure => simp [intOf]; omega
                  · have HPK : Hid (pick (Wl.set i (at_ S m)) i = e) := HY.out rfl
                    clear HY HNo
                    have hjm : e < m := by omega
                    have hij : i < e := by omega
                    have hjI : (e : Int) < (m : Int) + 1 := by omega
                    have hne : ((e : Int) == (i : Int)) = false := beq_eq_false_iff_ne.2 (by omega)
                    have s0 := HI3.out.mid.s0 (k := e) (by omega)
                    have s1 := HI3.out.mid.s1 (k := e) (by omega)
                    have y0 := HI3.out.row.cell0 i (by rw [List.length_map, HI3.out.want.len]; exact him)
                    have y1 := HI3.out.row.cell1 i (by rw [List.length_map, HI3.out.want.len]; exact him)
                    obtain ⟨z0, y0⟩ : ∃ z, World.cell? _ ⟨gw, i * 2, none⟩ = some z := ⟨_, y0⟩
                    obtain ⟨z1, y1⟩ : ∃ z, World.cell? _ ⟨gw, i * 2 + 1, none⟩ = some z := ⟨_, y1⟩
                    have hfz := HI3.out.row.frozen
                    go_wp2
                    go_roundw
                    case rel => exact ⟨e, rfl, ⟨_, _, (HI3.out).step HPK.out hij hjm⟩⟩
                    case measure => simp [intOf]; omega
                · have hd2 : decide (2 * (i : Int) + 2 < (m : Int)) = false := decide_eq_false (by omega)
                  have HPK : Hid (pick (Wl.set i (at_ S m)) i = c) := WantInv.pick_no HI2'.out.want HP1.out HFV.out (fun h => absurd h h2)
                  clear v0 v1
                  go_wp2
                  go_quiet (fail)
                  have hjm : c < m := by omega
                  have hij : i < c := by omega
                  have hjI : (c : Int) < (m : Int) + 1 := by omega
                  have hne : ((c : Int) == (i : Int)) = false := beq_eq_false_iff_ne.2 (by omega)
                  have s0 := HI2'.out.mid.s0 (k := c) (by omega)
                  have s1 := HI2'.out.mid.s1 (k := c) (by omega)
                  have y0 := HI2'.out.row.cell0 i (by rw [List.length_map, HI2'.out.want.len]; exact him)
                  have y1 := HI2'.out.row.cell1 i (by rw [List.length_map, HI2'.out.want.len]; exact him)
                  obtain ⟨z0, y0⟩ : ∃ z, World.cell? _ ⟨gw, i * 2, none⟩ = some z := ⟨_, y0⟩
                  obtain ⟨z1, y1⟩ : ∃ z, World.cell? _ ⟨gw, i * 2 + 1, none⟩ = some z := ⟨_, y1⟩
                  have hfz := HI2'.out.row.frozen
                  go_wp2
                  go_roundw
                  case rel => exact ⟨c, rfl, ⟨_, _, (HI2'.out.later (below_drew2 W2 _)).step HPK.out hij hjm⟩⟩
                  case measure => simp [intOf]; omega
            · have hd1 : decide (2 * (i : Int) + 1 < (m : Int)) = false := decide_eq_false (by omega)
              have hd2 : decide (2 * (i : Int) + 2 < (m : Int)) = false := decide_eq_false (by omega)
              have HPK : Hid (pick (Wl.set i (at_ S m)) i = i) := WantInv.pick_no HI1.out.want (WantInv.pick1_no HI1.out.want (fun h => absurd h h1)) HI1.out.want.at_i (fun h => absurd h (by omega))
              go_wp2
              generalize (wr.alloc (Obj.cells #[.pointer (some ⟨(at_ S m).r, 0, none⟩), .int .i64 (at_ S m).sh] 33)) = W1 at *
              generalize wr.heap.size = bf at *
              clear f0 f1 ffz hX0 hX1
              go_quiet (fail)
              go_wp2
              go_quiet (fail)
              have x0 := HI1.out.x0
              have x1 := HI1.out.x1
              have y0 := HI1.out.row.cell0 i (by rw [List.length_map, HI1.out.want.len]; exact him)
              have y1 := HI1.out.row.cell1 i (by rw [List.length_map, HI1.out.want.len]; exact him)
              obtain ⟨z0, y0⟩ : ∃ z, World.cell? _ ⟨gw, i * 2, none⟩ = some z := ⟨_, y0⟩
              obtain ⟨z1, y1⟩ : ∃ z, World.cell? _ ⟨gw, i * 2 + 1, none⟩ = some z := ⟨_, y1⟩
              have hfz := HI1.out.row.frozen
              go_wp2
              go_meet
              case rel =>
                obtain ⟨q1, q2⟩ := (HI1.out.later (below_drew2 W1 _)).fin HPK.out
                exact ⟨q1, q2⟩
      case rest =>
        obtain ⟨HMc, HRc⟩ := hcut
        have hcv := HMc.out.cellv
        go_wp2
        go_loopw [17] (fun t wr => ∃ k : Nat, k ≤ m ∧ t = .int .i64 k ∧ ∃ d, wr = wc.drewN d) (fun t _ => m - (intOf t).toNat)
        case atStart => exact ⟨0, Nat.zero_le _, rfl, 0, rfl⟩
        case round =>
          obtain ⟨k1, hk1, rfl, d, rfl⟩ := hrel
          by_cases hlt1 : k1 < m
          · have hkm : (k1 : Int) < (m : Int) := by omega
            have q0 := HMc.out.g0 hlt1
            have q1 := HMc.out.g1 hlt1
            obtain ⟨r0, r1⟩ := row_at HRc.out HMc.out hlt1
            generalize (at_ (popL S) k1).r = rr at *
            generalize (at_ (popL S) k1).sh = ss at *
            obtain ⟨j37, hj37⟩ : ∃ j, Yba.prog.info? 37 = some j := Option.isSome_iff_exists.1 Yba.some37
            have hpn := fun wx a => Lib.run_neq_ptr_same (P := Yba.prog) (w := wx) a Yba.underlying31 hj37
            go_wp2
            go_quiet (fail)
            go_wp2
            go_roundw
            case rel => exact ⟨k1 + 1, by omega, by go_num, _, rfl⟩
            case measure => simp [intOf]; omega
          · have hkm : k1 = m := by omega
            subst hkm
            obtain ⟨q0, q1⟩ := HMc.out.gm
            obtain ⟨j37, hj37⟩ : ∃ j, Yba.prog.info? 37 = some j := Option.isSome_iff_exists.1 Yba.some37
            have hpn := fun wx a => Lib.run_neq_ptr_same (P := Yba.prog) (w := wx) a Yba.underlying31 hj37
            go_wp2
            clear hpn hj37 q0 q1 hcv
            go_loopw [18] (fun t wr => ∃ k : Nat, k ≤ k1 + 1 ∧ t = .int .i64 k ∧ ∃ d, wr = wc.drewN d) (fun t _ => k1 + 1 - (intOf t).toNat)
            case atStart => exact ⟨0, Nat.zero_le _, rfl, _, rfl⟩
            case round =>
              obtain ⟨k2, hk2, rfl, d2, rfl⟩ := hrel
              by_cases hlt2 : k2 < k1 + 1
              · obtain ⟨b, off, r, n, ca, cb, ai, bi, rank, tie, ids, rfl, hids, hnl, p0, p1, p2, p3, p4, p5, p6, i0, i1, i2, hia, hib⟩ := HMc.out.rec_at hits HN.out hlt2
                have cE : ∀ e : Nat, Calls Yba.prog 9 #[.slice ai n ca, .slice bi n cb] (wc.drewN (d2 + e)) fun e' w'' => e' = .returned (.bool true) ∧ ∃ x, w'' = wc.drewN (d2 + x) := by
                  intro e
                  refine (equal_ints ai bi n ca cb ids (wc.drewN (d2 + e)) hids hnl hia hib).mono ?_
                  rintro _ _ ⟨rfl, x, rfl⟩
                  exact ⟨rfl, e + x, by rw [World.drewN_drewN, Nat.add_assoc]⟩
                have hns := fun wx => run_neq_slice_nil_any (P := Yba.prog) wx 35 _ none 0 0 0 0 Yba.underlying35
                have hkI : (k2 : Int) < (k1 : Int) + 1 := by omega
                clear hids hia hib
                go_wp2
                go_quiet (exact cE _)
                go_wp2
                go_roundw
                case rel => exact ⟨k2 + 1, by omega, by go_num, _, rfl⟩
                case measure => simp [intOf]; omega
              · go_wp2
                go_ret
                exact ⟨rfl, below_drewN HMc.out.bel _⟩

/-! ### THE ROW's STEP -/
theorem walk (a : Option Addr) (n cap : Nat) (its : List It) (w : World) (hn : its.length = n) (hits : ItemsAt w a its) (hlens : ∀ it ∈ its, it.ids.length ≤ 140737488355328) :
    Calls Yba.prog 3 #[.slice a n cap] w fun e w' => e = .returned (.bool true) ∧ Below w.heap.size w w' := by
  by_cases h : n = 0 ∨ 65536 < n
  · exact walk_out a n cap w h
  · obtain ⟨m, rfl⟩ : ∃ m, n = m + 1 := ⟨n - 1, by omega⟩
    exact walk_in a m cap its w hn (by omega) hits hlens

set_option maxRecDepth 100000 in
theorem lifted (os : Os) (started : os.Started) (H : Type) (enc : TypeId × Value → H) :
    ReturnsInHanded {} Yba.checked os 3 .any (Rows.lawS5551BWholeSpec.pre6 enc Yba.prog Yba.f3 Rows.lawS5551BWholeRow.domain false) (Rows.lawS5551BWholeSpec.post enc Yba.prog Yba.f3 false true false false) := by
  refine returnsInHanded_of_change_sized (C := Yba.checked) own started (by kernel_rfl) Yba.func3
    (ChangeSpec.witness6 (enc := enc) (C := Yba.checked) false ⟨#[], #[.slice none 0 0], []⟩ 8 (by kernel_rfl) (by kernel_rfl) (by kernel_rfl) (by kernel_rfl)) ?_
  intro W base args ds gs before hval0 hW hcnd hsz0 _
  have hval : ∀ (j : Nat) t v, Yba.f3.params[j]? = some t → args[j]? = some v → Value.okWide Yba.prog W .any base t v := hval0
  have hsz : (DataW.weightsEach Yba.prog (Yba.f3.params.toList ++ Rows.lawS5551BWholeSpec.plain.varTypes Yba.prog) (ds ++ gs)).all (· ≤ reachBytes) = true := hsz0
  have hW' := hW
  obtain ⟨p, q, hA0, hV, rfl, hfz, hnd⟩ := hW
  have hA : DataW.TrodAll enc Yba.prog W 0 (fun _ => true) true Yba.f3.params.toList args.toList ds p := hA0
  rw [Yba.params3] at hA hval hsz
  obtain ⟨v0, vs0, d0, ds0, p0, q0, hargs, rfl, rfl, h0, r0⟩ := trodAll_cons hA
  obtain ⟨rfl, rfl, rfl⟩ := trodAll_nil r0
  obtain rfl : args = #[v0] := by cases args; simp_all
  obtain ⟨rfl, rfl⟩ := trodVars_none hV
  obtain ⟨a0, len0, cap0, rfl⟩ := okWide_slice Yba.underlying22 (hval 0 22 v0 rfl rfl)
  have lt0 : ∀ x ∈ p0, x.block < W.heap.size := by obtain ⟨m, hm⟩ := h0; exact DataW.trod_lt m _ _ _ hm
  have hwt : ∀ k ∈ d0.weights Yba.prog 22, k ≤ reachBytes := by
    intro k hk
    have := List.all_eq_true.1 hsz k (DataW.weights_mem_each (j := 0) (t := 22) rfl rfl k hk)
    simpa using this
  obtain ⟨its, hn, hits, hlens, _⟩ := open_items h0 hwt
  clear hA0 hval0
  refine (walk a0 len0 cap0 its W hn hits hlens).mono fun e W' ⟨he, bel⟩ => ?_
  subst he
  exact ⟨_, rfl, _, _, _, [], _, [], hW', trodAll_mk1 (shut_bool Yba.underlying4 _), (trodAll_cons_mk (Below.trod laidOut (by kernel_rfl) (of_decide_eq_true (by kernel_rfl)) h0 bel lt0) trodAll_mk0), rfl, bel.frame _, fun h => by cases h⟩

theorem over : Rows.lawS5551BWholeRow.holds Yba.pinned (OpenSpec.ofChange Rows.lawS5551BWholeSpec) :=
  OpenClaim.holds_of_wide 3 Yba.f3 rfl rfl rfl rfl rfl rfl rfl ⟨rfl, rfl, rfl, rfl, rfl⟩ rfl rfl rfl rfl rfl (by kernel_rfl) Yba.func3 (by kernel_rfl)
    (of_decide_eq_true (by kernel_rfl)) (by unfold Func.isWrapper; first | (rw [if_pos (by decide +kernel)]; kernel_rfl) | (rw [if_neg (by decide +kernel)]; exact ⟨rfl, rfl⟩))
    (fun os started H enc _ => lifted os started H enc)

/-- THE STATEMENT -/
theorem proved : Rows.LawS5551BWholeSaid := over
end Go.Proofs.Ybulkdjya.lawS5551BWhole
