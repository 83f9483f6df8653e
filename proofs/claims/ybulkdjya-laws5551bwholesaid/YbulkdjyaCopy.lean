/-
  SHARED CONTRACTS OF THIS SEAT (10): slices.Equal at ints; a copy of a row of slots.
-/
import Derived.Test.YbulkdjyaPop
import Derived.Laws.CopyOwn
namespace Go.Proofs.Ybulkdjya
open Go.ChangeShapes Go.WideShapes Go.ChangeAt Go.RowKit
set_option linter.unusedVariables false

/-! ### slices.Equal on two rows that hold the same ints -/
set_option maxHeartbeats 1000000 in
theorem equal_ints (a b : Option Addr) (n ca cb : Nat) (xs : List Int) (w : World) (hn : xs.length = n) (hl : n ≤ 16777216) (ha : IntsAt w a xs) (hb : IntsAt w b xs) :
    Calls Yba.prog 9 #[.slice a n ca, .slice b n cb] w fun e w' => e = .returned (.bool true) ∧ ∃ d, w' = w.drewN d := by
  have HN : Hid (xs.length = n) := hn
  clear hn
  go_enter Yba.func9, Yba.ntmps9
  go_wp2
  go_loopw [13] (fun t wr => ∃ k : Nat, k ≤ n ∧ t = .int .i64 k ∧ ∃ d, wr = w.drewN d) (fun t _ => n - (intOf t).toNat)
  case atStart => exact ⟨0, Nat.zero_le _, rfl, 0, rfl⟩
  case round =>
    obtain ⟨k, hk, rfl, d, rfl⟩ := hrel
    by_cases hlt : k < n
    · obtain ⟨ba, oa, rfl, hca⟩ := ha k (by rw [HN.out]; exact hlt)
      obtain ⟨bb, ob, rfl, hcb⟩ := hb k (by rw [HN.out]; exact hlt)
      generalize xs.getD k 0 = x at *
      have hkn : (k : Int) < (n : Int) := by omega
      go_wp2
      go_quiet (fail)
      go_wp2
      go_roundw
      case rel => exact ⟨k + 1, by omega, by go_num, _, rfl⟩
      case measure => simp [intOf]; omega
    · go_wp2
      go_ret
      exact ⟨rfl, d, rfl⟩

/-! ### copy of a row of slots onto the head of a row that was just made -/
theorem run_copy_two {P : Program} (w : World) (dT sT ty elem : TypeId) (g n dCap sCap : Nat) (a : Addr) (cur : Array Value) (t : TypeId) (cs : List Value)
    (hu : P.underlying dT = some (.slice elem)) (hs : (P.info? elem).map (·.size) = some 2)
    (hg : w.heap[g]? = some (.cells cur t (0, 0))) (hn : cs.length = n * 2)
    (hsrc : ∀ j v, cs[j]? = some v → w.cell? (a.add j) = some v) (hfit : cs.length ≤ cur.size) (h1 : ∀ v ∈ cs, v.oneCell' = true) :
    (Builtin.copy_ #[dT, sT] ty #[.slice (some ⟨g, 0, none⟩) n dCap, .slice (some a) n sCap]).run P w =
      .ok (goInt n) (w.setRow g (cs ++ cur.toList.drop cs.length).toArray) := by
  have hl := run_loadCells_list (P := P) w a cs hsrc
  have hst := run_storeCells_at P g 0 t cs 0 cur w hg (by simpa using hfit) h1
  have hmin : Nat.min n n = n := Nat.min_self n
  rw [hn] at hl
  cases hq : P.info? elem with
  | none => simp [hq] at hs
  | some i =>
    have hi : i.size = 2 := by simpa [hq] using hs
    simp [Builtin.copy_, run_underlying hu, Builtin.lenOf, Builtin.firstCells, sizeOf, typeInfo, hq, hi, hmin, hl, hst]
theorem wpList_copy_two {P : Program} {w : World} {ops : Array Oper} {rest : List Oper} {o : Oper} {a : Act} {Q : Exit → Act → World → Prop} (hgd : o.guard = none) (d s : Operand) (dT sT : TypeId)
    (ho : o.op = .call { callee := .builtin .copy, args := #[d, s], argTypes := #[dT, sT] }) (elem : TypeId) (hu : P.underlying dT = some (.slice elem)) (hsz : (P.info? elem).map (·.size) = some 2)
    (g n dCap sCap : Nat) (ad : Addr) (hd : a.eval d = .slice (some ⟨g, 0, none⟩) n dCap) (hs : a.eval s = .slice (some ad) n sCap)
    (cur : Array Value) (t : TypeId) (hg : w.heap[g]? = some (.cells cur t (0, 0))) (cs : List Value) (hn : cs.length = n * 2)
    (hsrc : ∀ j v, cs[j]? = some v → w.cell? (ad.add j) = some v) (hfit : cs.length ≤ cur.size) (h1 : ∀ v ∈ cs, v.oneCell' = true)
    (h : wpList P ops Q rest (a.put o.dst (goInt n)) (w.setRow g (cs ++ cur.toList.drop cs.length).toArray)) : wpList P ops Q (o :: rest) a w := by
  refine wpList_plain hgd fun K hK => ?_
  have hrun := run_copy_two (P := P) w dT sT o.type elem g n dCap sCap ad cur t cs hu hsz hg hn hsrc hfit h1
  unfold Oper.wp
  simp [execOp, ho, resolve, invoke, builtin, hd, hs, hrun, Result.andThen]
  exact hK _ _ h
end Go.Proofs.Ybulkdjya
