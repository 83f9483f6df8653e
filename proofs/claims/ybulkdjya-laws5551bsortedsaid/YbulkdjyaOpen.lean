/-
  SHARED CONTRACTS OF THIS SEAT (12): a slice of items that came in, opened.
-/
import Derived.Test.YbulkdjyaBuild
import Derived.SizedLaws
import Derived.Deep.Slices
import Derived.Lib.SmallJoins
namespace Go.Proofs.Ybulkdjya
open Go.ChangeShapes Go.WideShapes Go.ChangeAt Go.RowKit
set_option linter.unusedVariables false

theorem own : ownKnob Yba.prog.godebug = none := by kernel_rfl
theorem laidOut : laidOutB Yba.prog = true := by kernel_rfl
theorem cells3 : Yba.prog.cellsOf 3 = 1 := by kernel_rfl
theorem cells23 : Yba.prog.cellsOf 23 = 1 := by kernel_rfl
theorem cells24 : Yba.prog.cellsOf 24 = 1 := by kernel_rfl
theorem cells26 : Yba.prog.cellsOf 26 = 4 := by kernel_rfl
theorem bytes3 : Yba.prog.bytesOf 3 = 8 := by kernel_rfl
instance : Inhabited It := ⟨zeroIt⟩

theorem weightsAll_mem {H : Type} {P : Program} {e : TypeId} : ∀ {l : List (DataW H)} {d : DataW H}, d ∈ l → ∀ n ∈ d.weights P e, n ∈ DataW.weightsAll P e l
  | d0 :: r, d, hd, n, hn => by
    simp only [DataW.weightsAll, List.mem_append]
    rcases List.mem_cons.1 hd with rfl | h
    · exact Or.inl hn
    · exact Or.inr (weightsAll_mem h n hn)

theorem list4' {α : Type} : ∀ l : List α, l.length = 4 → ∃ a b c d, l = [a, b, c, d]
  | [a, b, c, d], _ => ⟨a, b, c, d, rfl⟩

theorem open_item {H : Type} {enc : TypeId × Value → H} {W : World} {n : Nat} {cs : List Value} {D : DataW H} {p : List MemPlace} {x : Addr} {i : Nat} (hc : W.cells? 0 (x.add (i * 4)) 4 = some cs)
    (h : DataW.trod enc Yba.prog W 0 (fun _ => true) true n 26 cs = some (D, p)) (hw : ∀ k ∈ D.weights Yba.prog 26, k ≤ reachBytes) (hspot : x.spot = none) :
    ∃ it : It, (∃ b off, x = ⟨b, off, none⟩ ∧ ItemAt W b (off + i * 4) it) ∧ it.ids.length ≤ 140737488355328 := by
  obtain ⟨y0, y1, y2, y3, n', hx, hlen, h0, h1, h2, h3⟩ := Joins.trod_struct4 Yba.underlying26 h
  rw [cells26] at hlen
  obtain ⟨_, _, hcell⟩ := World.cells?_some hc
  obtain ⟨c0, c1, c2, c3, rfl⟩ := list4' cs hlen
  simp only [cells23, cells24, cells3, List.drop_zero, List.drop_succ_cons, List.take_succ_cons, List.take_zero] at h0 h1 h2 h3
  obtain ⟨x1, e1, rfl, w1⟩ := DataW.trod_int Yba.underlying24 h1
  obtain ⟨x2, e2, rfl, w2⟩ := DataW.trod_int Yba.underlying24 h2
  obtain ⟨x3, e3, rfl, w3⟩ := DataW.trod_int Yba.underlying3 h3
  simp at e1 e2 e3
  subst e1 e2 e3
  obtain ⟨b, off, spot⟩ := x
  have hspot : spot = none := hspot
  subst hspot
  rw [add_plain] at hcell
  have k0 := hcell 0 (by omega)
  have k1 := hcell 1 (by omega)
  have k2 := hcell 2 (by omega)
  have k3 := hcell 3 (by omega)
  rw [add_plain] at k0 k1 k2 k3
  simp at hx
  obtain ⟨rfl, _⟩ := hx
  rcases open_ints Yba.underlying23 Yba.underlying3 cells3 h0 with ⟨hcs, rfl⟩ | ⟨ai, l, c, zs, hcs, _, hl, hm, hz, rfl, hcl, hwz⟩
  · simp at hcs
    subst hcs
    exact ⟨⟨[], x1, x2, x3⟩, ⟨b, off, rfl, none, 0, k0, k1, k2, k3, fun i hi => by simp at hi, fun _ => ⟨rfl, rfl⟩⟩, by simp⟩
  · simp at hcs
    subst hcs
    have hz' : zs.length = c := by simpa using hz
    have hlen' : (zs.take l).length = l := by simp; omega
    refine ⟨⟨zs.take l, x1, x2, x3⟩, ⟨b, off, rfl, some ai, c, ?_, k1, k2, k3, ?_, fun h => by cases h⟩, ?_⟩
    · show _ = some (Value.slice (some ai) (zs.take l).length c)
      rw [hlen']; exact k0
    · intro j hj
      have hj1 : j < l := by simp at hj; omega
      obtain ⟨bb, oo, sp⟩ := ai
      have hsp : sp = none := by simpa [Addr.add] using World.cell?_spot (hcl 0 (by omega))
      subst hsp
      have := hcl j (by omega)
      rw [add_plain] at this
      refine ⟨bb, oo, rfl, ?_⟩
      show _ = some (Value.int .i64 ((zs.take l).getD j 0))
      rw [this]
      simp [List.getD_eq_getElem?_getD, hj1]
    · show (zs.take l).length ≤ _
      have := hw ((zs.take l).length * 8 + (zs.drop l).length * 8) (by
        simp [DataW.weights, Yba.underlying26, Yba.underlying23, DataW.weightsEach, bytes3, lits, Nat.add_mul])
      rw [hlen'] at this ⊢
      simp only [reachBytes] at this
      omega

theorem open_items {H : Type} {enc : TypeId × Value → H} {W : World} {a : Option Addr} {len cap : Nat} {d : DataW H} {p : List MemPlace} (h : DataW.Trod enc Yba.prog W 0 (fun _ => true) true 22 (.slice a len cap) d p)
    (hw : ∀ k ∈ d.weights Yba.prog 22, k ≤ reachBytes) : ∃ its : List It, its.length = len ∧ ItemsAt W a its ∧ (∀ it ∈ its, it.ids.length ≤ 140737488355328) ∧ (a = none → len = 0) := by
  obtain ⟨fuel, hf⟩ := h
  rcases Deep.open_slice Yba.underlying22 hf with ⟨hcs, _⟩ | ⟨x, l, c, m, n, D, Pl, hcs, _, hl, hm, hmm, hx, hel⟩
  · simp [Value.cells] at hcs
    obtain ⟨rfl, rfl, rfl⟩ := hcs
    exact ⟨[], rfl, fun i hi => by simp at hi, fun it h => by simp at h, fun _ => rfl⟩
  · simp [Value.cells] at hcs
    obtain ⟨rfl, rfl, rfl⟩ := hcs
    simp only [Prod.mk.injEq] at hx
    obtain ⟨rfl, _⟩ := hx
    simp only [if_true] at hmm
    subst hmm
    rw [cells26] at hel
    obtain ⟨F, hF⟩ := Deep.choose_lt (α := It) (n := len) (p := fun i it => (∃ b off, x = ⟨b, off, none⟩ ∧ ItemAt W b (off + i * 4) it) ∧ it.ids.length ≤ 140737488355328) (fun i hi => by
      obtain ⟨cs', h1, h2⟩ := hel i (by omega)
      have hsp : x.spot = none := by
        obtain ⟨cs0, q1, _⟩ := hel 0 (by omega)
        obtain ⟨_, hl0, q2⟩ := World.cells?_some q1
        have q3 := q2 0 (by omega)
        rw [List.getElem?_eq_getElem (by omega)] at q3
        simpa [Addr.add] using World.cell?_spot q3
      refine open_item h1 h2 (fun k hk => hw k ?_) hsp
      simp only [DataW.weights, Yba.underlying22, List.mem_cons, List.mem_append]
      exact Or.inr (Or.inl (weightsAll_mem (d := D i) (List.mem_map.2 ⟨i, List.mem_range.2 hi, rfl⟩) k hk)))
    refine ⟨(List.range len).map F, by simp, ?_, ?_, fun h => by cases h⟩
    · intro i hi
      have hi' : i < len := by simpa using hi
      obtain ⟨⟨b, off, rfl, hit⟩, _⟩ := hF i hi'
      refine ⟨b, off, rfl, ?_⟩
      have e : ((List.range len).map F).getD i zeroIt = F i := by simp [List.getD_eq_getElem?_getD, hi']
      rw [e]; exact hit
    · intro it hit
      obtain ⟨i, hi, rfl⟩ := List.mem_map.1 hit
      exact (hF i (List.mem_range.1 hi)).2
end Go.Proofs.Ybulkdjya
