/-
  SHARED CONTRACTS OF THIS SEAT: strconv.ParseInt on a string of one to eighteen decimal digits (walked through internal/strconv's ParseInt and ParseUint), and number on such a row of bytes.
-/
import Derived.Test.YbulkdjvwDoorRows
import Derived.WalkKit
import Derived.ProofKit
import Derived.OpenShut
import Derived.ShutString
import Derived.Below
import Derived.Handy
import Derived.WalkSmall
import Derived.WalkSpells
import Derived.Lib.Bytes
import Derived.Laws.BytesArg
import Derived.Laws.IdiomStrings
namespace Go.Proofs.YbulkdjvwDoor
open Go.ChangeShapes Go.WideShapes Go.ChangeAt Go.RowKit

/-! ### plain -/
def dv (zs : List Int) : Int := zs.foldl (fun n c => n * 10 + (c - 48)) 0
theorem dv_snoc (l : List Int) (c : Int) : dv (l ++ [c]) = dv l * 10 + (c - 48) := by simp [dv]
def Digits (zs : List Int) : Prop := ∀ i, i < zs.length → 48 ≤ zs.getD i 0 ∧ zs.getD i 0 ≤ 57
theorem take_snoc (l : List Int) (k : Nat) (h : k < l.length) : l.take (k + 1) = l.take k ++ [l.getD k 0] := by
  rw [List.take_succ_eq_append_getElem h, List.getD_eq_getElem?_getD, List.getElem?_eq_getElem h]; rfl
theorem dv_bd (zs : List Int) (hd : Digits zs) (k : Nat) (hk : k ≤ zs.length) : 0 ≤ dv (zs.take k) ∧ dv (zs.take k) < 10 ^ k := by
  induction k with
  | zero => simp [dv]
  | succ k ih =>
    have h := ih (by omega)
    have hb := hd k (by omega)
    rw [take_snoc zs k (by omega), dv_snoc, Int.pow_succ]
    omega
theorem pow18 (x : Int) (k : Nat) (hk : k ≤ 18) (h : x < 10 ^ k) : x < 1000000000000000000 := by
  have h1 : (10 : Nat) ^ k ≤ 10 ^ 18 := Nat.pow_le_pow_right (by omega) hk
  have h2 : ((10 ^ k : Nat) : Int) = (10 : Int) ^ k := by simp
  have e : (10 : Nat) ^ 18 = 1000000000000000000 := by decide
  omega

/-! ### '[]byte(s)' -/
theorem bytes_of (s : ByteArray) (w : World) : ∃ cap w1, (convert 9 22 (.string s)).run Ybad.prog w = .ok (.slice (some ⟨w.heap.size, 0, none⟩) s.size cap) w1 ∧ Below w.heap.size w w1 ∧ ∀ j (h : j < s.size), w1.cell? ⟨w.heap.size, j, none⟩ = some (.int .u8 (s[j].toNat : Int)) := by
  refine ⟨_, _, run_bytes_of_string (P := Ybad.prog) w 9 22 5 s Ybad.underlying9 Ybad.underlying22 Ybad.underlying5, ((Below.refl _ _).drew).alloc (Nat.le_refl _) _, fun j h => ?_⟩
  have := World.cell?_alloc_mark w.drew (bytesRow s (grownCap w s.size 0 5)) 5 ((bytesRow s (grownCap w s.size 0 5)).size, (bytesRow s (grownCap w s.size 0 5)).size + 1) j
  rw [World.size_drew] at this
  rw [this, bytesRow_at s _ j h]
  rfl

theorem nonempty (s : ByteArray) (h : 1 ≤ s.size) : s.toList.isEmpty = false := by
  rw [List.isEmpty_eq_false_iff]
  intro e
  have h0 : s.data.size = 0 := by rw [← Array.length_toList, ← Lib.toList_data, e]; rfl
  have h1 : s.size = s.data.size := rfl
  omega
theorem ret_pair' {a b : Int} (h : a = b) : Ending.returned (.tuple #[.int .i64 a, .nilIface]) = .returned (.tuple #[.int .i64 b, .nilIface]) := by rw [h]
theorem ret_pair {a b : Int} (h : a = b) : Ending.returned (.tuple #[.int .u64 a, .nilIface]) = .returned (.tuple #[.int .u64 b, .nilIface]) := by rw [h]

set_option maxRecDepth 100000 in
set_option maxHeartbeats 2000000 in
theorem puint (s : ByteArray) (zs : List Int) (w : World) (hsz : s.size = zs.length) (hget : ∀ j (h : j < s.size), (s[j].toNat : Int) = zs.getD j 0) (h1 : 1 ≤ zs.length) (h18 : zs.length ≤ 18) (hd : Digits zs) :
    Calls Ybad.prog 8 #[.string s, .int .i64 10, .int .i64 64] w fun e w' => e = .returned (.tuple #[.int .u64 (dv zs), .nilIface]) ∧ Below w.heap.size w w' := by
  have HSZ : Hid (s.size = zs.length) := hsz
  have HG : Hid (∀ j (h : j < s.size), (s[j].toNat : Int) = zs.getD j 0) := hget
  clear hsz hget
  obtain ⟨cap, w1, hrun, hb1, hc1⟩ := bytes_of s w
  have HC : Hid (∀ j (h : j < s.size), w1.cell? ⟨w.heap.size, j, none⟩ = some (.int .u8 (s[j].toNat : Int))) := hc1
  clear hc1
  have hne : s.toList.isEmpty = false := nonempty s (by rw [HSZ.out]; exact h1)
  obtain ⟨Z, hZ, hZ0⟩ : ∃ Z, IntKind.u64.wrap 18446744073709551616 = Z ∧ Hid (Z = 0) := ⟨_, rfl, (show _ = _ by rw [IntKind.wrap_u64]; decide)⟩
  obtain ⟨MX, hMX, hMX0⟩ : ∃ MX, IntKind.u64.wrap (Z - 1) = MX ∧ 18446744073709551615 ≤ MX := ⟨_, rfl, by rw [hZ0.out, IntKind.wrap_u64]; decide⟩
  have hs18 : s.size ≤ 18 := by rw [HSZ.out]; exact h18
  go_enter Ybad.func8, Ybad.ntmps8
  go_wp2
  go_loop [12, 13, 101] (fun u n i => ∃ k : Nat, k ≤ s.size ∧ i = .int .i64 k ∧ u = .bool false ∧ ∃ V : Int, n = .int .u64 V ∧ Hid (dv (zs.take k) = V) ∧ 0 ≤ V ∧ V < 1000000000000000000) (fun _ _ i => s.size - (intOf i).toNat)
  case atStart => exact ⟨0, Nat.zero_le _, rfl, rfl, 0, rfl, (show _ = _ from rfl), by omega, by omega⟩
  case round =>
    obtain ⟨k, hk, rfl, rfl, V, rfl, HV, hV0, hV1⟩ := hrel
    by_cases hlt : k < s.size
    · have hcell := HC.out k hlt
      rw [HG.out k hlt] at hcell
      have hkz : k < zs.length := by rw [← HSZ.out]; exact hlt
      obtain ⟨hc0, hc1⟩ := hd k hkz
      have HN : Hid (dv (zs.take (k + 1)) = V * 10 + (zs.getD k 0 - 48)) := by
        show _ = _
        rw [take_snoc zs k hkz, dv_snoc, HV.out]
      have hb := dv_bd zs hd (k + 1) (by omega)
      have hb2 : V * 10 + (zs.getD k 0 - 48) < 1000000000000000000 := by
        have := pow18 _ (k + 1) (by omega) hb.2
        rw [HN.out] at this
        exact this
      generalize zs.getD k 0 = c at *
      clear hb HV
      go_wp2
      go_round
      case rel => exact ⟨k + 1, by omega, by go_num, rfl, _, rfl, HN, by omega, hb2⟩
      case measure => simp [intOf]; omega
    · have HF : Hid (dv zs = V) := by
        show _ = _
        rw [← HV.out, List.take_of_length_le (by rw [← HSZ.out]; omega)]
      go_wp2
      go_ret2
      exact ⟨ret_pair HF.out.symm, hb1⟩

set_option maxRecDepth 100000 in
set_option maxHeartbeats 2000000 in
theorem pint (s : ByteArray) (zs : List Int) (w : World) (hsz : s.size = zs.length) (hget : ∀ j (h : j < s.size), (s[j].toNat : Int) = zs.getD j 0) (h1 : 1 ≤ zs.length) (h18 : zs.length ≤ 18) (hd : Digits zs) :
    Calls Ybad.prog 6 #[.string s, .int .i64 10, .int .i64 64] w fun e w' => e = .returned (.tuple #[.int .i64 (dv zs), .nilIface]) ∧ Below w.heap.size w w' := by
  have hs1 : 0 < s.size := by omega
  have hne : s.toList.isEmpty = false := nonempty s hs1
  have hdv := dv_bd zs hd zs.length (Nat.le_refl _)
  rw [List.take_length] at hdv
  have hdv1 := pow18 _ _ h18 hdv.2
  have hdv0 := hdv.1
  obtain ⟨hc0, hc1⟩ := hd 0 (by omega)
  rw [← hget 0 hs1] at hc0 hc1
  have HSZ : Hid (s.size = zs.length) := hsz
  have HG : Hid (∀ j (h : j < s.size), (s[j].toNat : Int) = zs.getD j 0) := hget
  clear hdv hsz hget
  go_enter Ybad.func6, Ybad.ntmps6
  go_wp2_with fail
  refine (puint s zs _ HSZ.out HG.out h1 h18 hd).mono ?_
  rintro e w1 ⟨rfl, hb1⟩
  generalize hV : dv zs = V at *
  have HV : Hid (dv zs = V) := hV
  clear hV
  go_wp2
  go_ret2
  exact ⟨ret_pair' HV.out.symm, hb1⟩

set_option maxHeartbeats 2000000 in
theorem pint_public (s : ByteArray) (zs : List Int) (w : World) (hsz : s.size = zs.length) (hget : ∀ j (h : j < s.size), (s[j].toNat : Int) = zs.getD j 0) (h1 : 1 ≤ zs.length) (h18 : zs.length ≤ 18) (hd : Digits zs) :
    Calls Ybad.prog 4 #[.string s, .int .i64 10, .int .i64 64] w fun e w' => e = .returned (.tuple #[.int .i64 (dv zs), .nilIface]) ∧ Below w.heap.size w w' := by
  have HSZ : Hid (s.size = zs.length) := hsz
  have HG : Hid (∀ j (h : j < s.size), (s[j].toNat : Int) = zs.getD j 0) := hget
  clear hsz hget
  go_enter Ybad.func4, Ybad.ntmps4
  go_wp2_with fail
  refine (pint s zs _ HSZ.out HG.out h1 h18 hd).mono ?_
  rintro e w1 ⟨rfl, hb1⟩
  go_wp2
  go_ret2
  exact ⟨rfl, hb1⟩

/-! ### a row of bytes in memory, and number -/
/-- The bytes zs lie from address 'a' on. -/
def BytesAt (w : World) (a : Option Addr) (zs : List Int) : Prop :=
  ∀ i, i < zs.length → ∃ b off, a = some ⟨b, off, none⟩ ∧ w.cell? ⟨b, off + i, none⟩ = some (.int .u8 (zs.getD i 0))
theorem BytesAt.later {w wx : World} {a : Option Addr} {zs : List Int} (h : BytesAt w a zs) (hb : Below w.heap.size w wx) : BytesAt wx a zs := by
  intro i hi
  obtain ⟨b, off, ha, hc⟩ := h i hi
  exact ⟨b, off, ha, cell_later hb hc⟩
theorem ret_int {k : IntKind} {a b : Int} (h : a = b) : Ending.returned (.int k a) = .returned (.int k b) := by rw [h]

set_option maxHeartbeats 1000000 in
theorem number_any (a : Option Addr) (len cap : Nat) (zs : List Int) (w : World) (hl : zs.length = len) (h18 : len ≤ 18) (hd : Digits zs) (hc : BytesAt w a zs) :
    Calls Ybad.prog 5 #[.slice a len cap] w fun e w' => e = .returned (.int .i64 (dv zs)) ∧ w = w' := by
  have HL : Hid (zs.length = len) := hl
  clear hl
  go_enter Ybad.func5, Ybad.ntmps5
  go_wp2
  go_loop [3, 8] (fun n i => ∃ k : Nat, k ≤ len ∧ i = .int .i64 k ∧ ∃ V : Int, n = .int .i64 V ∧ Hid (dv (zs.take k) = V) ∧ 0 ≤ V ∧ V < 1000000000000000000) (fun _ i => len - (intOf i).toNat)
  case atStart => exact ⟨0, Nat.zero_le _, rfl, 0, rfl, (show _ = _ from rfl), by omega, by omega⟩
  case round =>
    obtain ⟨k, hk, rfl, V, rfl, HV, hV0, hV1⟩ := hrel
    by_cases hlt : k < len
    · have hkz : k < zs.length := by rw [HL.out]; exact hlt
      obtain ⟨b, off, rfl, hcell⟩ := hc k hkz
      obtain ⟨hc0, hc1⟩ := hd k hkz
      have HN : Hid (dv (zs.take (k + 1)) = V * 10 + (zs.getD k 0 - 48)) := by
        show _ = _
        rw [take_snoc zs k hkz, dv_snoc, HV.out]
      have hb := dv_bd zs hd (k + 1) (by omega)
      have hb2 : V * 10 + (zs.getD k 0 - 48) < 1000000000000000000 := by
        have := pow18 _ (k + 1) (by omega) hb.2
        rw [HN.out] at this
        exact this
      generalize zs.getD k 0 = c at *
      clear hb HV
      go_wp2
      go_round
      case rel => exact ⟨k + 1, by omega, by go_num, _, rfl, HN, by omega, hb2⟩
      case measure => simp [intOf]; omega
    · go_wp2
      go_ret
      exact ⟨ret_int (by rw [← HV.out, List.take_of_length_le (by rw [HL.out]; omega)]), rfl⟩

end Go.Proofs.YbulkdjvwDoor
