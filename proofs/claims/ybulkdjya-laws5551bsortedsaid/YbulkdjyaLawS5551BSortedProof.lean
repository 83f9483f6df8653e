/-
  THE PROOF OF 'Rows.LawS5551BSortedSaid' ('dolev.LawS5551BSorted'): every item pushed, then popped until none is left: each slot comes once, in the order.
-/
import Derived.Test.YbulkdjyaSortInv
import Derived.Test.YbulkdjyaOpen
import Derived.StillTailTactics
namespace Go.Proofs.Ybulkdjya.lawS5551BSorted
open Go.ChangeShapes Go.WideShapes Go.ChangeAt Go.RowKit
set_option linter.unusedVariables false

set_option maxRecDepth 100000 in
theorem walk_out (a : Option Addr) (n cap : Nat) (w : World) (h : 4096 < n) :
    Calls Yba.prog 4 #[.slice a n cap] w fun e w' => e = .returned (.bool true) ∧ Below w.heap.size w w' := by
  have h1 : (4096 : Int) < (n : Int) := by omega
  clear h
  go_enter Yba.func4, Yba.ntmps4
  go_wp2
  go_ret
  exact ⟨rfl, Below.refl _ _⟩

theorem run_makeMap_hint (t : TypeId) (k e : TypeId) (v : Int) (w : World) (h : Yba.prog.underlying t = some (.map k e)) : (Instr.makeMap t (some (.int .i64 v))).run Yba.prog w = .ok (.map (some w.heap.size)) (w.alloc (.map #[] 0)) := by
  simp only [Instr.makeMap, Sem.run_bind, run_underlying h, Result.andThen_ok]
  rfl
theorem pu_start {w w1 : World} {n : Nat} {its : List It} {S : List Sl} (hB : Built w w1 w.heap.size n n its S) :
    PuI w ((w1.alloc (Obj.map #[] 0)).alloc (Obj.cells #[Value.slice none 0 0] 28)) w1.heap.size w1.heap.size (w1.heap.size + 1) (w1.heap.size + 1) n 0 S [] := by
  have hb1 : Below w1.heap.size w1 (w1.alloc (Obj.map #[] 0)) := (Below.refl _ _).alloc (Nat.le_refl _) _
  have hb : Below w1.heap.size w1 ((w1.alloc (Obj.map #[] 0)).alloc (Obj.cells #[Value.slice none 0 0] 28)) := hb1.alloc (by simp) _
  have hrow : Row w1 w.heap.size (S.map Sl.os) := by have := hB.row; rw [Nat.sub_self, List.replicate_zero, List.append_nil] at this; exact this
  have hbase : Base w w1 w1.heap.size n S := ⟨hB.len, hB.below, hrow.lt, Nat.le_refl _, hrow, hB.recs, hB.blk, hB.up⟩
  have hcell : ((w1.alloc (Obj.map #[] 0)).alloc (Obj.cells #[Value.slice none 0 0] 28)).cell? ⟨w1.heap.size + 1, 0, none⟩ = some (.slice none 0 0) := by
    simp
  refine ⟨hbase.later hb, ?_, .inl ⟨hcell, rfl, rfl, rfl⟩, ?_, rfl, fun j _ hj => by simp at hj, by simp, Nat.le_refl _, by omega, by simp, Nat.le_refl _⟩
  · rw [List.take_zero]
    exact (mapAt_made w1).later ((Below.refl _ _).alloc (Nat.le_refl _) _)
  · have := frozen_of_row ((w1.alloc (Obj.map #[] 0)).alloc (Obj.cells #[Value.slice none 0 0] 28)) (w1.heap.size + 1) 0 #[Value.slice none 0 0] 28 (alloc_last _ _ _ (by simp))
    exact this
theorem po_start {w wr : World} {hi og n : Nat} {S A : List Sl} (h : PuI w wr hi hi (hi + 1) og n n S A) (hn : 0 < n) :
    ∃ cap, PoI w (wr.alloc (Obj.cells #[Value.pointer none, Value.int .i64 0] 33)) hi hi (hi + 1) og wr.heap.size cap n 0 S A (fun _ => 0) := by
  have hb : Below wr.heap.size wr (wr.alloc (Obj.cells #[Value.pointer none, Value.int .i64 0] 33)) := (Below.refl _ _).alloc (Nat.le_refl _) _
  have htk : S.take n = S := List.take_of_length_le (by rw [h.base.ls]; omega)
  have hperm := h.perm
  have hmap := h.map
  rw [htk] at hperm hmap
  have o3 := h.o3
  have o4 := h.o4
  have hlast := alloc_last wr (Obj.cells #[Value.pointer none, Value.int .i64 0] 33) _ rfl
  rcases h.q with ⟨_, h0, _⟩ | ⟨cap, c, hown, hne⟩
  · omega
  · obtain ⟨hr, hc, q1, q2, q3⟩ := Own.parts hown
    have hgl := hr.lt
    have hh := h.base.hh
    refine ⟨cap, h.base.later hb, hmap.later hb, by rw [Nat.sub_zero]; exact cell_later hb c, frozen_later hb c h.frz, hr.later hb, by rw [Nat.sub_zero]; exact h.len, by omega, h.heap, fun a ha => hperm.subset ha, ?_, fun _ _ => rfl, ⟨.pointer none, .int .i64 0, by simp [go_sem], by simp [go_sem], .inl rfl⟩, fun o => frozen_of_row _ _ _ _ 33 hlast, ⟨Nat.le_refl _, by omega, by omega, by omega⟩, by omega⟩
    exact (hperm.map Sl.r).nodup_iff.2 (h.base.up.imp (fun h => by omega))
theorem pu_len {w wr : World} {hi v og n : Nat} {S A : List Sl} (h : PuI w wr hi hi v og n n S A) : ∃ a c, wr.cell? ⟨v, 0, none⟩ = some (.slice a n c) := by
  rcases h.q with ⟨c, h0, _⟩ | ⟨cap, c, _⟩
  · exact ⟨_, _, by rw [h0]; exact c⟩
  · exact ⟨_, _, c⟩
set_option maxRecDepth 100000 in
set_option maxHeartbeats 4000000 in
theorem walk_in (a : Option Addr) (n cap : Nat) (its : List It) (w : World) (hn : its.length = n) (hm : n ≤ 4096) (hits : ItemsAt w a its) (hlens : ∀ it ∈ its, it.ids.length ≤ 140737488355328) :
    Calls Yba.prog 4 #[.slice a n cap] w fun e w' => e = .returned (.bool true) ∧ Below w.heap.size w w' := by
  have HN : Hid (its.length = n) := hn
  have HLN : Hid (∀ it ∈ its, it.ids.length ≤ 140737488355328) := hlens
  clear hn hlens
  have hd : decide ((4096 : Int) < (n : Int)) = false := decide_eq_false (by omega)
  have hmk := fun v wx => run_makeMap_hint 40 _ _ v wx Yba.underlying40
  go_enter Yba.func4, Yba.ntmps4
  go_wp2
  go_loop [3, 19] (fun s t => ∃ k T : Nat, k ≤ n ∧ t = .int .i64 k ∧ s = .int .i64 T ∧ T ≤ 65536 ∧ Hid (∀ j, j < k → (its.getD j zeroIt).ids.length ≤ 65536)) (fun _ t => n - (intOf t).toNat)
  case atStart => exact ⟨0, 0, Nat.zero_le _, rfl, rfl, by omega, (fun j hj => by omega)⟩
  case round =>
    obtain ⟨k, T, hk, rfl, rfl, hT, HT⟩ := hrel
    by_cases hlt : k < n
    · obtain ⟨b, off, rfl, hit⟩ := hits k (by rw [HN.out]; exact hlt)
      have HL1 : Hid ((its.getD k zeroIt).ids.length ≤ 140737488355328) := by
        have hkl : k < its.length := by rw [HN.out]; exact hlt
        rw [List.getD_eq_getElem?_getD, List.getElem?_eq_getElem hkl]
        exact HLN.out _ (List.getElem_mem hkl)
      obtain ⟨ai, ci, c0, _⟩ := hit
      have HKK : Hid (∀ j, j < k + 1 → (its.getD k zeroIt).ids.length ≤ 65536 → (its.getD j zeroIt).ids.length ≤ 65536) := by
        intro j hj h1
        by_cases e : j = k
        · rw [e]; exact h1
        · exact HT.out j (by omega)
      generalize (its.getD k zeroIt).ids.length = L at *
      have hL := HL1.out
      by_cases hbig : 65536 < T + L
      · go_wp2
        go_ret
        exact ⟨rfl, Below.refl _ _⟩
      · go_wp2
        go_round
        case rel => exact ⟨k + 1, T + L, by omega, by go_num, by go_num, by omega, (fun j hj => HKK.out j hj (by omega))⟩
        case measure => simp [intOf]; omega
    · have HLL : Hid (∀ it ∈ its, it.ids.length ≤ 65536) := by
        intro it hit
        obtain ⟨j, hj, rfl⟩ := List.mem_iff_getElem.1 hit
        have := HT.out j (by have := HN.out; omega)
        rw [List.getD_eq_getElem?_getD, List.getElem?_eq_getElem hj] at this
        exact this
      clear HT
      go_wp2_with fail
      refine (build_any a n cap its _ HN.out (by omega) (fun it h => by have := HLL.out it h; omega) hits).mono ?_
      rintro e w1 ⟨rfl, S, hB⟩
      have HB : Hid (Built w w1 w.heap.size n n its S) := hB
      clear hB
      have HPU : Hid (PuI w ((w1.alloc (Obj.map #[] 0)).alloc (Obj.cells #[Value.slice none 0 0] 28)) w1.heap.size w1.heap.size (w1.heap.size + 1) (w1.heap.size + 1) n 0 S []) := pu_start HB.out
      clear HB
      go_wp2
      generalize w1.heap.size = hi at *
      go_loopw [40] (fun t wr => ∃ i : Nat, i ≤ n ∧ t = .int .i64 i ∧ Hid (∃ og A, PuI w wr hi hi (hi + 1) og n i S A)) (fun t _ => n - (intOf t).toNat)
      case atStart => exact ⟨0, Nat.zero_le _, rfl, ⟨_, _, HPU.out⟩⟩
      case round =>
        obtain ⟨i, hin, rfl, HR⟩ := hrel
        clear HPU
        obtain ⟨og, A, hI⟩ := HR.out
        clear HR
        have HI : Hid (PuI w wr hi hi (hi + 1) og n i S A) := hI
        clear hI
        by_cases hlt2 : i < n
        · have hinI : (i : Int) < (n : Int) := by omega
          have c0 := HI.out.base.c0 hlt2
          go_wp2_with (at_mapUpdate; refine wpList_update_pk _ rfl (.tmp 43) (.tmp 48) (.const (.int .i64 0)) rfl hi (at_ S i).r 0 [] _ rfl rfl rfl (HI.out.update hlt2) ?_; intro wy hmy hwy; have HM : Hid (PuM w wy hi hi (hi + 1) og n i S A) := HI.out.stored hmy hwy; clear hmy hwy)
          have d0 := HM.out.base.c0 hlt2
          have d1 := HM.out.base.c1 hlt2
          clear c0 HI
          refine wp_region_still_tail 10 (by kernel_rfl) (by kernel_rfl) ?_
          simp only [List.take_succ_cons, List.take_zero, List.drop_succ_cons, List.drop_zero]
          repeat (first | still_step)
          refine wpStill_nil ?_
          go_wp2_with fail
          refine ((HM.out.later ((Below.refl _ wy).drew)).push hlt2 hm).mono ?_
          rintro e w2 ⟨rfl, hp⟩
          have HP : Hid (∃ og A, PuI w w2 hi hi (hi + 1) og n (i + 1) S A) := hp
          clear hp HM d0 d1
          go_wp2
          go_roundw
          case rel => exact ⟨i + 1, by omega, by go_num, HP⟩
          case measure => simp [intOf]; omega
        · obtain rfl : i = n := by omega
          rcases Nat.eq_zero_or_pos i with rfl | hpos
          · obtain ⟨qa, qc, hqc⟩ := pu_len HI.out
            have hbel := HI.out.base.bel
            have HBL : Hid (Below w.heap.size w wr) := hbel
            have hvl : hi + 1 < wr.heap.size := HI.out.o3
            clear hbel HI
            go_wp2
            have hqc' := cell_later ((Below.refl _ wr).alloc (Nat.le_refl _) (Obj.cells #[Value.pointer none, Value.int .i64 0] 33)) hqc
            have HBX : Hid (Below w.heap.size w (wr.alloc (Obj.cells #[Value.pointer none, Value.int .i64 0] 33))) := HBL.out.alloc HBL.out.size _
            clear hqc
            generalize (wr.alloc (Obj.cells #[Value.pointer none, Value.int .i64 0] 33)) = WX at *
            go_loopw [10] (fun t wx => t = .int .i64 0 ∧ wx = WX) (fun _ _ => 0)
            case atStart => exact ⟨rfl, rfl⟩
            case round =>
              obtain ⟨rfl, rfl⟩ := hrel
              go_wp2
              go_ret
              exact ⟨rfl, HBX.out⟩
          · obtain ⟨cp, hpo⟩ := po_start HI.out hpos
            have HPO : Hid (PoI w (wr.alloc (Obj.cells #[Value.pointer none, Value.int .i64 0] 33)) hi hi (hi + 1) og wr.heap.size cp i 0 S A (fun _ => 0)) := hpo
            clear hpo HI
            go_wp2
            generalize wr.heap.size = pb at *
            generalize (wr.alloc (Obj.cells #[Value.pointer none, Value.int .i64 0] 33)) = WX at *
            go_loopw [10] (fun t wx => ∃ j : Nat, j ≤ i ∧ t = .int .i64 j ∧ Hid (∃ A f, PoI w wx hi hi (hi + 1) og pb cp i j S A f)) (fun t _ => i - (intOf t).toNat)
            case atStart => exact ⟨0, Nat.zero_le _, rfl, ⟨_, _, HPO.out⟩⟩
            case round =>
              obtain ⟨j, hji, rfl, HR⟩ := hrel
              clear HPO
              obtain ⟨A, f, hI⟩ := HR.out
              clear HR
              by_cases hlt3 : j < i
              · have hjI : (j : Int) < (i : Int) := by omega
                obtain ⟨q, hq⟩ : ∃ q : Nat, i - j = q + 1 := ⟨i - j - 1, by omega⟩
                have hqI : (i : Int) - (j : Int) = (q : Int) + 1 := by omega
                have hcv := hI.cell
                rw [hq] at hcv
                obtain ⟨c0, c1⟩ := hI.q0 hlt3
                obtain ⟨ix, hsk, _⟩ := hI.look hlt3
                have hbw : Below wr.heap.size wr (wr.alloc (Obj.cells #[Value.pointer (some ⟨(at_ A 0).r, 0, none⟩), Value.int .i64 (at_ A 0).sh] 33)) := (Below.refl _ _).alloc (Nat.le_refl _) _
                have HI1 : Hid (PoI w (wr.alloc (Obj.cells #[Value.pointer (some ⟨(at_ A 0).r, 0, none⟩), Value.int .i64 (at_ A 0).sh] 33)) hi hi (hi + 1) og pb cp i j S A f) := hI.later hbw
                have s0 : (wr.alloc (Obj.cells #[Value.pointer (some ⟨(at_ A 0).r, 0, none⟩), Value.int .i64 (at_ A 0).sh] 33)).cell? ⟨wr.heap.size, 0, none⟩ = some (.pointer (some ⟨(at_ A 0).r, 0, none⟩)) := by simp [go_sem]
                have s1 : (wr.alloc (Obj.cells #[Value.pointer (some ⟨(at_ A 0).r, 0, none⟩), Value.int .i64 (at_ A 0).sh] 33)).cell? ⟨wr.heap.size, 1, none⟩ = some (.int .i64 (at_ A 0).sh) := by simp [go_sem]
                have hsb : wr.heap.size ≠ hi := by have := hI.map.lt; omega
                have hsp : wr.heap.size ≠ pb := by
                  obtain ⟨_, _, p0, _⟩ := hI.prev
                  have : pb < wr.heap.size := block_lt_of_cell p0
                  omega
                have HSK : Hid (seek (at_ A 0).r (mapL S f) 0 = some (ix, 0)) := hsk
                have HMA : Hid (MapAt (wr.alloc (Obj.cells #[Value.pointer (some ⟨(at_ A 0).r, 0, none⟩), Value.int .i64 (at_ A 0).sh] 33)) hi (mapL S f)) := HI1.out.map
                have HRB : Hid (Blk (wr.alloc (Obj.cells #[Value.pointer (some ⟨(at_ A 0).r, 0, none⟩), Value.int .i64 (at_ A 0).sh] 33)) (at_ A 0).r) := HI1.out.base.blk _ (HI1.out.sub _ (HI1.out.mem hlt3))
                have HKS : Hid (∀ x ∈ mapL S f, Blk (wr.alloc (Obj.cells #[Value.pointer (some ⟨(at_ A 0).r, 0, none⟩), Value.int .i64 (at_ A 0).sh] 33)) x.1) := HI1.out.keys
                have HUP : Hid (∃ w', (Instr.mapUpdate 40 (.map (some hi)) (pk (at_ A 0).r) (.int .i64 1)).run Yba.prog (wr.alloc (Obj.cells #[Value.pointer (some ⟨(at_ A 0).r, 0, none⟩), Value.int .i64 (at_ A 0).sh] 33)) = .ok () w' ∧ MapAt w' hi (mapL S (turn f (at_ A 0).r 1)) ∧ Wrote hi hi (wr.alloc (Obj.cells #[Value.pointer (some ⟨(at_ A 0).r, 0, none⟩), Value.int .i64 (at_ A 0).sh] 33)) w') := HI1.out.update hlt3
                have HS0 : Hid (at_ A 0 ∈ S) := HI1.out.sub _ (HI1.out.mem hlt3)
                clear hsk hbw hI hq
                by_cases hj0 : j = 0
                · subst hj0
                  go_upto_if 99 with (first
                    | (at_lookup; refine wpList_lookup_pk _ rfl (.tmp 78) (.tmp 80) rfl hi (at_ A 0).r ix 0 (mapL S f) rfl rfl HMA.out HRB.out HKS.out HSK.out ?_)
                    | (at_mapUpdate; refine wpList_update_pk _ rfl (.tmp 90) (.tmp 92) (.const (.int .i64 1)) rfl hi (at_ A 0).r 1 [] _ rfl rfl rfl HUP.out ?_; intro wy hmy hwy; have HM : Hid (PoM w wy hi hi (hi + 1) og pb cp i 0 S A f) := HI1.out.stored hmy hwy; have e0 := Wr.cell hwy hsb hsb s0; have e1 := Wr.cell hwy hsb hsb s1; clear hmy hwy; obtain ⟨px, py, p0, p1, hpp⟩ := HM.out.prev; have pf := HM.out.pfrz; clear hpp))
                  clear s0 s1 HMA HRB HKS HSK HUP HI1 hcv c0 c1
                  go_wp2_with fail
                  refine (HM.out.pop hlt3 hm).mono ?_
                  rintro e w5 ⟨rfl, hp5⟩
                  have HP5 : Hid (∃ A f, PoI w w5 hi hi (hi + 1) og pb cp i 1 S A f) := hp5
                  clear hp5 e0 e1 p0 p1 pf HM
                  go_wp2
                  go_roundw
                  case rel => exact ⟨1, by omega, rfl, HP5⟩
                  case measure => simp [intOf]; omega
                · obtain ⟨px, py, b0, b1, hpp⟩ := HI1.out.prev
                  obtain ⟨p, hpS, rfl, rfl, hle⟩ := hpp.resolve_left hj0
                  have HPS : Hid (p ∈ S) := hpS
                  have hlf : lessB (at_ A 0) p = false := hle _ (HI1.out.mem hlt3)
                  have hph : pb ≠ hi := by have := HI1.out.o2; omega
                  have hj1 : decide ((0 : Int) < (j : Int)) = true := decide_eq_true (by omega)
                  clear hpp hle hpS
                  go_upto_if 99 with (first
                    | (at_lookup; refine wpList_lookup_pk _ rfl (.tmp 78) (.tmp 80) rfl hi (at_ A 0).r ix 0 (mapL S f) rfl rfl HMA.out HRB.out HKS.out HSK.out ?_)
                    | (at_mapUpdate; refine wpList_update_pk _ rfl (.tmp 90) (.tmp 92) (.const (.int .i64 1)) rfl hi (at_ A 0).r 1 [] _ rfl rfl rfl HUP.out ?_; intro wy hmy hwy; have HM : Hid (PoM w wy hi hi (hi + 1) og pb cp i j S A f) := HI1.out.stored hmy hwy; have e0 := Wr.cell hwy hsb hsb s0; have e1 := Wr.cell hwy hsb hsb s1; have p0 := Wr.cell hwy hph hph b0; have p1 := Wr.cell hwy hph hph b1; clear hmy hwy)
                    | (go_at_call 8; refine (less_any (at_ A 0) p _ (HM.out.base.recs _ HS0.out).at (HM.out.base.recs _ HPS.out).at).mono ?_; rintro e w3 ⟨rfl, hb3⟩; have HM3 : Hid (PoM w w3 hi hi (hi + 1) og pb cp i j S A f) := HM.out.later hb3; have g0 := cell_later hb3 e0; have g1 := cell_later hb3 e1; have r0 := cell_later hb3 p0; have r1 := cell_later hb3 p1; have pf := HM3.out.pfrz; clear hb3))
                  clear s0 s1 HMA HRB HKS HSK HUP HI1 hcv c0 c1 e0 e1 p0 p1 b0 b1 HM
                  go_wp2_with fail
                  refine (HM3.out.pop hlt3 hm).mono ?_
                  rintro e w5 ⟨rfl, hp5⟩
                  have HP5 : Hid (∃ A f, PoI w w5 hi hi (hi + 1) og pb cp i (j + 1) S A f) := hp5
                  clear hp5 g0 g1 r0 r1 pf HM3
                  go_wp2
                  go_roundw
                  case rel => exact ⟨j + 1, by omega, by go_num, HP5⟩
                  case measure => simp [intOf]; omega
              · obtain rfl : j = i := by omega
                have hcv := hI.cell
                rw [Nat.sub_self] at hcv
                have HBX := hI.base.bel
                clear hI
                go_wp2
                go_ret
                exact ⟨rfl, HBX⟩

/-! ### THE ROW's STEP -/
theorem walk (a : Option Addr) (n cap : Nat) (its : List It) (w : World) (hn : its.length = n) (hits : ItemsAt w a its) (hlens : ∀ it ∈ its, it.ids.length ≤ 140737488355328) :
    Calls Yba.prog 4 #[.slice a n cap] w fun e w' => e = .returned (.bool true) ∧ Below w.heap.size w w' := by
  by_cases h : 4096 < n
  · exact walk_out a n cap w h
  · exact walk_in a n cap its w hn (by omega) hits hlens

set_option maxRecDepth 100000 in
theorem lifted (os : Os) (started : os.Started) (H : Type) (enc : TypeId × Value → H) :
    ReturnsInHanded {} Yba.checked os 4 .any (Rows.lawS5551BSortedSpec.pre6 enc Yba.prog Yba.f4 Rows.lawS5551BSortedRow.domain false) (Rows.lawS5551BSortedSpec.post enc Yba.prog Yba.f4 false true false false) := by
  refine returnsInHanded_of_change_sized (C := Yba.checked) own started (by kernel_rfl) Yba.func4
    (ChangeSpec.witness6 (enc := enc) (C := Yba.checked) false ⟨#[], #[.slice none 0 0], []⟩ 8 (by kernel_rfl) (by kernel_rfl) (by kernel_rfl) (by kernel_rfl)) ?_
  intro W base args ds gs before hval0 hW hcnd hsz0 _
  have hval : ∀ (j : Nat) t v, Yba.f4.params[j]? = some t → args[j]? = some v → Value.okWide Yba.prog W .any base t v := hval0
  have hsz : (DataW.weightsEach Yba.prog (Yba.f4.params.toList ++ Rows.lawS5551BSortedSpec.plain.varTypes Yba.prog) (ds ++ gs)).all (· ≤ reachBytes) = true := hsz0
  have hW' := hW
  obtain ⟨p, q, hA0, hV, rfl, hfz, hnd⟩ := hW
  have hA : DataW.TrodAll enc Yba.prog W 0 (fun _ => true) true Yba.f4.params.toList args.toList ds p := hA0
  rw [Yba.params4] at hA hval hsz
  obtain ⟨v0, vs0, d0, ds0, p0, q0, hargs, rfl, rfl, h0, r0⟩ := trodAll_cons hA
  obtain ⟨rfl, rfl, rfl⟩ := trodAll_nil r0
  obtain rfl : args = #[v0] := by cases args; simp_all
  obtain ⟨rfl, rfl⟩ := trodVars_none hV
  obtain ⟨a0, len0, cap0, rfl⟩ := okWide_slice Yba.underlying22 (hval 0 22 v0 rfl rfl)
  have lt0 : ∀ x ∈ p0, x.block < W.heap.size := by obtain ⟨m, hm⟩ := h0; exact DataW.trod_lt m _ _ _ hm
  have hwt : ∀ k ∈ d0.weights Yba.prog 22, k ≤ reachBytes := by
    intro k hk
    have := List.all_eq_true.1 hsz k (DataW.weights_mem_each (j := 0) (t := 22) rfl rfl k hk)
    simpa using this
  obtain ⟨its, hn, hits, hlens, _⟩ := open_items h0 hwt
  clear hA0 hval0
  refine (walk a0 len0 cap0 its W hn hits hlens).mono fun e W' ⟨he, bel⟩ => ?_
  subst he
  exact ⟨_, rfl, _, _, _, [], _, [], hW', trodAll_mk1 (shut_bool Yba.underlying4 _), (trodAll_cons_mk (Below.trod laidOut (by kernel_rfl) (of_decide_eq_true (by kernel_rfl)) h0 bel lt0) trodAll_mk0), rfl, bel.frame _, fun h => by cases h⟩

theorem over : Rows.lawS5551BSortedRow.holds Yba.pinned (OpenSpec.ofChange Rows.lawS5551BSortedSpec) :=
  OpenClaim.holds_of_wide 4 Yba.f4 rfl rfl rfl rfl rfl rfl rfl ⟨rfl, rfl, rfl, rfl, rfl⟩ rfl rfl rfl rfl rfl (by kernel_rfl) Yba.func4 (by kernel_rfl)
    (of_decide_eq_true (by kernel_rfl)) (by unfold Func.isWrapper; first | (rw [if_pos (by decide +kernel)]; kernel_rfl) | (rw [if_neg (by decide +kernel)]; exact ⟨rfl, rfl⟩))
    (fun os started H enc _ => lifted os started H enc)

/-- THE STATEMENT -/
theorem proved : Rows.LawS5551BSortedSaid := over
end Go.Proofs.Ybulkdjya.lawS5551BSorted
