/-
  SHARED BY THE PROOFS OF THIS SEAT: a row of bytes in memory ('BytesAt'), and small plain facts.
-/
import Derived.Test.YbulkdjvwRows
import Derived.WalkKit
import Derived.ProofKit
import Derived.OpenShut
import Derived.ShutString
import Derived.ChangeOld
import Derived.Below
import Derived.Handy
import Derived.Laws.CopyOwn
import Derived.Deep.QuietTactic
import Derived.BigQuiet
import Derived.WalkSmall
import Derived.WalkSpells
namespace Go.Proofs.Ybulkdjvw
open Go.ChangeShapes Go.WideShapes Go.ChangeAt Go.RowKit

/-- The bytes zs lie from address 'a' on. -/
def BytesAt (w : World) (a : Option Addr) (zs : List Int) : Prop :=
  ∀ i, i < zs.length → ∃ b off, a = some ⟨b, off, none⟩ ∧ w.cell? ⟨b, off + i, none⟩ = some (.int .u8 (zs.getD i 0)) ∧ 0 ≤ zs.getD i 0 ∧ zs.getD i 0 ≤ 255

theorem BytesAt.later {w wx : World} {a : Option Addr} {zs : List Int} (h : BytesAt w a zs) (hb : Below w.heap.size w wx) : BytesAt wx a zs := by
  intro i hi
  obtain ⟨b, off, ha, hc, h0, h1⟩ := h i hi
  exact ⟨b, off, ha, cell_later hb hc, h0, h1⟩

theorem BytesAt.drewN {w : World} {a : Option Addr} {zs : List Int} (h : BytesAt w a zs) (n : Nat) : BytesAt (w.drewN n) a zs := h

/-- A row that 'open_ints' gives: the first 'len' of them. -/
theorem bytesAt_of {w : World} {x : Addr} {zs : List Int} (len : Nat) (hcell : ∀ i, i < zs.length → w.cell? (x.add i) = some (.int .u8 (zs.getD i 0))) (hwz : ∀ n ∈ zs, (Lit.int .u8 n).wf = true) : BytesAt w (some x) (zs.take len) := by
  intro i hi
  have hi' : i < zs.length := by simp at hi; omega
  have hil : i < len := by simp at hi; omega
  have hc := hcell i hi'
  obtain ⟨b, off, spot⟩ := x
  have hspot : spot = none := by simpa [Addr.add] using World.cell?_spot (hcell 0 (by omega))
  subst hspot
  rw [add_plain] at hc
  have e : (zs.take len).getD i 0 = zs.getD i 0 := by simp [List.getD_eq_getElem?_getD, hil]
  have hm : zs.getD i 0 ∈ zs := by rw [List.getD_eq_getElem?_getD, List.getElem?_eq_getElem hi']; exact List.getElem_mem hi'
  have hb := bounds_u8 (hwz _ hm)
  rw [e]
  exact ⟨b, off, rfl, hc, hb.1, hb.2⟩

theorem take_snoc (l : List Int) (k : Nat) (h : k < l.length) : l.take (k + 1) = l.take k ++ [l.getD k 0] := by
  rw [List.take_succ_eq_append_getElem h, List.getD_eq_getElem?_getD, List.getElem?_eq_getElem h]; rfl
theorem drop_cons (l : List Int) (k : Nat) (h : k < l.length) : l.drop k = l.getD k 0 :: l.drop (k + 1) := by
  rw [List.drop_eq_getElem_cons h, List.getD_eq_getElem?_getD, List.getElem?_eq_getElem h]; rfl

/-- A row of bytes, filled by one copy over the whole of a made row. -/
theorem splice_all {α : Type} (L cs : List α) (h : L.length = cs.length) : splice L 0 cs = cs := by
  simp [splice, h]

theorem bytesAt_of_row {w : World} {g : Nat} {t : TypeId} {zs : List Int} {w0 : World} {a0 : Option Addr} (h0 : BytesAt w0 a0 zs) (hg : w.heap[g]? = some (.cells (zs.map (Value.int .u8)).toArray t (0, 0))) : BytesAt w (some ⟨g, 0, none⟩) zs := by
  intro i hi
  obtain ⟨_, _, _, _, hb⟩ := h0 i hi
  refine ⟨g, 0, rfl, ?_, hb⟩
  simp [World.cell?, hg, List.getD_eq_getElem?_getD, List.getElem?_eq_getElem hi]

theorem Yba.info5 : (Yba.prog.info? 5).map (fun i => (i.zero, i.size, i.bytes)) = some (some (.int .u8 0), 1, 1) := by kernel_rfl
theorem Yba.size5 : (Yba.prog.info? 5).map (·.size) = some 1 := by kernel_rfl
end Go.Proofs.Ybulkdjvw
