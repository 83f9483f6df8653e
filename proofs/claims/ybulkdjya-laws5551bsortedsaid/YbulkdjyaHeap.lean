/-
  SHARED LAWS OF THIS SEAT (13): the order is a weak order; sifting up and down keep a heap and its slots; no Go in sight.
-/
import Derived.Test.YbulkdjyaPopInv
namespace Go.Proofs.Ybulkdjya
open Go.ChangeShapes Go.WideShapes Go.ChangeAt Go.RowKit
set_option linter.unusedVariables false

/-! ### comparers -/
structure IsCmp {α : Type} (c : α → α → Int) : Prop where
  anti : ∀ x y, c y x = - c x y
  trans : ∀ x y z, c x y ≤ 0 → c y z ≤ 0 → c x z ≤ 0
theorem cmp3_is {α : Type} (f : α → Int) : IsCmp fun a b => cmp3 (f a) (f b) := by
  constructor
  · intro x y
    simp only [cmp3]
    repeat' split
    all_goals omega
  · intro x y z
    simp only [cmp3]
    repeat' split
    all_goals omega
theorem cmpL_is : IsCmp cmpL := by
  constructor
  · intro x
    induction x with
    | nil => intro y; cases y <;> rfl
    | cons a x ih =>
      intro y
      cases y with
      | nil => rfl
      | cons b y =>
        simp only [cmpL]
        have h := (cmp3_is (fun a : Int => a)).anti a b
        rw [h, ih]
        by_cases e : cmp3 a b = 0
        · simp [e]
        · rw [if_neg (by omega), if_neg e]
  · intro x
    induction x with
    | nil => intro y z h1 h2; cases z <;> cases y <;> simp_all [cmpL]
    | cons a x ih =>
      intro y z h1 h2
      cases y with
      | nil => simp [cmpL] at h1
      | cons b y =>
        cases z with
        | nil => simp [cmpL] at h2
        | cons c z =>
          simp only [cmpL] at *
          have ht := fun p q r => (cmp3_is (fun a : Int => a)).trans p q r
          have ha := fun p q => (cmp3_is (fun a : Int => a)).anti p q
          have t1 := ht a b c
          have t2 := ht c a b
          have t3 := ht b c a
          have a1 := ha a b
          have a2 := ha b c
          have a3 := ha c a
          by_cases e1 : cmp3 a b = 0 <;> by_cases e2 : cmp3 b c = 0 <;> simp only [e1, e2, if_true, if_false] at h1 h2 <;> by_cases e3 : cmp3 a c = 0 <;> simp only [e3, if_true, if_false] <;> first | exact ih _ _ h1 h2 | omega
theorem lex_is {α : Type} {c d : α → α → Int} (hc : IsCmp c) (hd : IsCmp d) : IsCmp fun x y => if c x y = 0 then d x y else c x y := by
  constructor
  · intro x y
    have h1 := hc.anti x y
    have h2 := hd.anti x y
    by_cases e : c x y = 0
    · rw [if_pos (by omega), if_pos e, h2]
    · rw [if_neg (by omega), if_neg e, h1]
  · intro x y z h1 h2
    have t1 := hc.trans x y z
    have t2 := hc.trans z x y
    have t3 := hc.trans y z x
    have a1 := hc.anti x y
    have a2 := hc.anti y z
    have a3 := hc.anti z x
    have b1 := hd.trans x y z
    by_cases e1 : c x y = 0 <;> by_cases e2 : c y z = 0 <;> simp only [e1, e2, if_true, if_false] at h1 h2 <;> by_cases e3 : c x z = 0 <;> simp only [e3, if_true, if_false] <;> first | exact b1 h1 h2 | omega
def cmpS (a b : Sl) : Int := if cmp3 a.place b.place = 0 then (if cmp3 (a.ids.length : Int) b.ids.length = 0 then (if cmp3 a.sh b.sh = 0 then (if cmp3 a.tie b.tie = 0 then cmpL a.ids b.ids else cmp3 a.tie b.tie) else cmp3 a.sh b.sh) else cmp3 (a.ids.length : Int) b.ids.length) else cmp3 a.place b.place
theorem cmpS_is : IsCmp cmpS := by
  have h5 : IsCmp fun a b : Sl => cmpL a.ids b.ids := ⟨fun x y => cmpL_is.anti _ _, fun x y z => cmpL_is.trans _ _ _⟩
  exact lex_is (cmp3_is Sl.place) (lex_is (cmp3_is fun s : Sl => (s.ids.length : Int)) (lex_is (cmp3_is Sl.sh) (lex_is (cmp3_is Sl.tie) h5)))
theorem cmp3_nought {x y : Int} : cmp3 x y = 0 ↔ x = y := by
  unfold cmp3
  repeat' split
  all_goals omega
theorem lessB_eq (a b : Sl) : lessB a b = decide (cmpS a b < 0) := by
  unfold lessB lessRaw cmpS
  by_cases e : a.place = b.place
  · rw [if_pos e, if_pos (cmp3_nought.2 e)]
    simp only [orL]
    by_cases e5 : cmpL a.ids b.ids = 0
    · simp [e5]
    · simp [e5]
  · rw [if_neg e, if_neg (fun h => e (cmp3_nought.1 h))]
    unfold cmp3
    repeat' split
    all_goals simp_all

/-! ### the order -/
def le (a b : Sl) : Prop := lessB b a = false
theorem le_iff {a b : Sl} : le a b ↔ cmpS a b ≤ 0 := by
  unfold le
  rw [lessB_eq, decide_eq_false_iff_not]
  have := cmpS_is.anti a b
  omega
theorem le_trans {a b c : Sl} (h1 : le a b) (h2 : le b c) : le a c := le_iff.2 (cmpS_is.trans _ _ _ (le_iff.1 h1) (le_iff.1 h2))
theorem le_of_less {a b : Sl} (h : lessB a b = true) : le a b := by
  rw [lessB_eq, decide_eq_true_iff] at h
  exact le_iff.2 (by omega)
theorem le_refl (a : Sl) : le a a := by
  have := cmpS_is.anti a a
  exact le_iff.2 (by omega)

/-! ### lists -/
theorem swap_length (A : List Sl) (i j : Nat) : (swapL A i j).length = A.length := by simp [swapL]
theorem at_swap {A : List Sl} {i j : Nat} (hi : i < A.length) (hj : j < A.length) (k : Nat) : at_ (swapL A i j) k = if k = j then at_ A i else if k = i then at_ A j else at_ A k := by
  unfold swapL at_
  simp only [List.getD_eq_getElem?_getD, List.getElem?_set, List.length_set]
  by_cases h1 : k = j
  · subst h1; simp [hj]
  · have h1' : ¬ j = k := fun h => h1 h.symm
    simp only [if_neg h1, if_neg h1']
    by_cases h2 : k = i
    · subst h2; simp [hi]
    · have h2' : ¬ i = k := fun h => h2 h.symm
      simp only [if_neg h2, if_neg h2']
theorem swap_perm {A : List Sl} {i j : Nat} (hi : i < A.length) (hj : j < A.length) : (swapL A i j).Perm A := by
  unfold swapL at_
  simp only [List.getD_eq_getElem?_getD, List.getElem?_eq_getElem hi, List.getElem?_eq_getElem hj, Option.getD_some]
  exact List.set_set_perm hi hj
def Heap (A : List Sl) : Prop := ∀ j, 0 < j → j < A.length → le (at_ A ((j - 1) / 2)) (at_ A j)
theorem Heap.head {A : List Sl} (h : Heap A) : ∀ i, i < A.length → le (at_ A 0) (at_ A i) := by
  intro i
  induction i using Nat.strongRecOn with
  | ind i ih =>
    intro hi
    by_cases h0 : i = 0
    · subst h0; exact le_refl _
    · exact le_trans (ih ((i - 1) / 2) (by omega) (by omega)) (h i (by omega) hi)

/-! ### sifting up -/
def up : Nat → List Sl → Nat → List Sl
  | 0, A, _ => A
  | f + 1, A, i => if 0 < i ∧ lessB (at_ A i) (at_ A ((i - 1) / 2)) = true then up f (swapL A i ((i - 1) / 2)) ((i - 1) / 2) else A
def pushL (A : List Sl) (s : Sl) : List Sl := up (A.length + 1) (A ++ [s]) A.length
structure UpInv (A : List Sl) (i : Nat) : Prop where
  pos : i < A.length
  all : ∀ j, 0 < j → j < A.length → j ≠ i → le (at_ A ((j - 1) / 2)) (at_ A j)
  kids : 0 < i → ∀ j, 0 < j → j < A.length → (j - 1) / 2 = i → le (at_ A ((i - 1) / 2)) (at_ A j)
theorem UpInv.stop {A : List Sl} {i : Nat} (h : UpInv A i) (hs : ¬ (0 < i ∧ lessB (at_ A i) (at_ A ((i - 1) / 2)) = true)) : Heap A := by
  intro j h0 hj
  by_cases e : j = i
  · subst e
    have : lessB (at_ A j) (at_ A ((j - 1) / 2)) ≠ true := fun hb => hs ⟨h0, hb⟩
    exact Bool.eq_false_iff.2 this
  · exact h.all j h0 hj e
theorem UpInv.step {A : List Sl} {i : Nat} (h : UpInv A i) (h0 : 0 < i) (hb : lessB (at_ A i) (at_ A ((i - 1) / 2)) = true) : UpInv (swapL A i ((i - 1) / 2)) ((i - 1) / 2) := by
  have hi := h.pos
  have hu : (i - 1) / 2 < A.length := by omega
  have hlt : (i - 1) / 2 < i := by omega
  have L := le_of_less hb
  generalize hU : (i - 1) / 2 = u at *
  refine ⟨by rw [swap_length]; exact hu, ?_, ?_⟩
  · intro j j0 hj hne
    rw [swap_length] at hj
    rw [at_swap hi hu, at_swap hi hu, if_neg hne]
    by_cases e1 : j = i
    · subst e1
      rw [hU, if_pos rfl, if_pos rfl]
      exact L
    · rw [if_neg e1]
      by_cases e2 : (j - 1) / 2 = i
      · rw [e2, if_neg (by omega), if_pos rfl]
        have := h.kids h0 j j0 hj e2
        rw [hU] at this
        exact this
      · by_cases e3 : (j - 1) / 2 = u
        · rw [e3, if_pos rfl]
          have := h.all j j0 hj e1
          rw [e3] at this
          exact le_trans L this
        · rw [if_neg e3, if_neg e2]
          exact h.all j j0 hj e1
  · intro u0 j j0 hj he
    rw [swap_length] at hj
    rw [at_swap hi hu, at_swap hi hu, if_neg (by omega), if_neg (by omega), if_neg (by omega)]
    have hpu := h.all u u0 hu (by omega)
    by_cases e1 : j = i
    · rw [if_pos e1]; exact hpu
    · rw [if_neg e1]
      have := h.all j j0 hj e1
      rw [he] at this
      exact le_trans hpu this
theorem up_heap : ∀ (f : Nat) (A : List Sl) (i : Nat), i < f → UpInv A i → Heap (up f A i)
  | 0, A, i, hf, h => by omega
  | f + 1, A, i, hf, h => by
    rw [up]
    split
    · rename_i hc
      exact up_heap f _ _ (by omega) (h.step hc.1 hc.2)
    · rename_i hc
      exact h.stop hc
theorem up_perm : ∀ (f : Nat) (A : List Sl) (i : Nat), i < A.length → (up f A i).Perm A
  | 0, A, i, hi => List.Perm.refl _
  | f + 1, A, i, hi => by
    rw [up]
    split
    · rename_i hc
      exact (up_perm f _ _ (by rw [swap_length]; omega)).trans (swap_perm hi (by omega))
    · exact List.Perm.refl _
theorem push_start {A : List Sl} (h : Heap A) (s : Sl) : UpInv (A ++ [s]) A.length := by
  refine ⟨by simp, ?_, ?_⟩
  · intro j j0 hj hne
    have hj' : j < A.length := by simp at hj; omega
    have e : ∀ k, k < A.length → at_ (A ++ [s]) k = at_ A k := by
      intro k hk
      simp [at_, List.getD_eq_getElem?_getD, List.getElem?_append_left hk]
    rw [e _ hj', e _ (by omega)]
    exact h j j0 hj'
  · intro h0 j j0 hj he
    simp at hj
    omega
theorem push_heap {A : List Sl} (h : Heap A) (s : Sl) : Heap (pushL A s) := up_heap _ _ _ (by omega) (push_start h s)
theorem push_perm (A : List Sl) (s : Sl) : (pushL A s).Perm (A ++ [s]) := up_perm _ _ _ (by simp)

/-! ### sifting down -/
structure DownInv (A : List Sl) (i : Nat) : Prop where
  all : ∀ j, 0 < j → j < A.length → (j - 1) / 2 ≠ i → le (at_ A ((j - 1) / 2)) (at_ A j)
  kids : 0 < i → ∀ j, 0 < j → j < A.length → (j - 1) / 2 = i → le (at_ A ((i - 1) / 2)) (at_ A j)
theorem pick_cases (A : List Sl) (i : Nat) : (pick A i = i ∧ (2 * i + 1 < A.length → le (at_ A i) (at_ A (2 * i + 1))) ∧ (2 * i + 2 < A.length → le (at_ A i) (at_ A (2 * i + 2)))) ∨
    ((pick A i = 2 * i + 1 ∨ pick A i = 2 * i + 2) ∧ pick A i < A.length ∧ le (at_ A (pick A i)) (at_ A i) ∧ (2 * i + 1 < A.length → le (at_ A (pick A i)) (at_ A (2 * i + 1))) ∧ (2 * i + 2 < A.length → le (at_ A (pick A i)) (at_ A (2 * i + 2)))) := by
  have nf : ∀ {x y : Sl}, ¬ lessB x y = true → le y x := fun h => Bool.eq_false_iff.2 h
  by_cases h1 : 2 * i + 1 < A.length ∧ lessB (at_ A (2 * i + 1)) (at_ A i) = true
  · have e1 : pick1 A i = 2 * i + 1 := by unfold pick1; rw [if_pos h1]
    by_cases h2 : 2 * i + 2 < A.length ∧ lessB (at_ A (2 * i + 2)) (at_ A (2 * i + 1)) = true
    · have e2 : pick A i = 2 * i + 2 := by unfold pick; rw [e1, if_pos h2]
      rw [e2]
      exact .inr ⟨.inr rfl, h2.1, le_trans (le_of_less h2.2) (le_of_less h1.2), fun _ => le_of_less h2.2, fun _ => le_refl _⟩
    · have e2 : pick A i = 2 * i + 1 := by unfold pick; rw [e1, if_neg h2]
      rw [e2]
      exact .inr ⟨.inl rfl, h1.1, le_of_less h1.2, fun _ => le_refl _, fun h => nf (fun hb => h2 ⟨h, hb⟩)⟩
  · have e1 : pick1 A i = i := by unfold pick1; rw [if_neg h1]
    have n1 : 2 * i + 1 < A.length → le (at_ A i) (at_ A (2 * i + 1)) := fun h => nf (fun hb => h1 ⟨h, hb⟩)
    by_cases h2 : 2 * i + 2 < A.length ∧ lessB (at_ A (2 * i + 2)) (at_ A i) = true
    · have e2 : pick A i = 2 * i + 2 := by unfold pick; rw [e1, if_pos h2]
      rw [e2]
      exact .inr ⟨.inr rfl, h2.1, le_of_less h2.2, fun h => le_trans (le_of_less h2.2) (n1 h), fun _ => le_refl _⟩
    · have e2 : pick A i = i := by unfold pick; rw [e1, if_neg h2]
      exact .inl ⟨e2, n1, fun h => nf (fun hb => h2 ⟨h, hb⟩)⟩
theorem DownInv.stop {A : List Sl} {i : Nat} (h : DownInv A i) (h1 : 2 * i + 1 < A.length → le (at_ A i) (at_ A (2 * i + 1))) (h2 : 2 * i + 2 < A.length → le (at_ A i) (at_ A (2 * i + 2))) : Heap A := by
  intro j j0 hj
  by_cases e : (j - 1) / 2 = i
  · rw [e]
    rcases (show j = 2 * i + 1 ∨ j = 2 * i + 2 by omega) with rfl | rfl
    · exact h1 hj
    · exact h2 hj
  · exact h.all j j0 hj e
theorem DownInv.step {A : List Sl} {i p : Nat} (h : DownInv A i) (hp : p = 2 * i + 1 ∨ p = 2 * i + 2) (hl : p < A.length) (h0 : le (at_ A p) (at_ A i)) (h1 : 2 * i + 1 < A.length → le (at_ A p) (at_ A (2 * i + 1))) (h2 : 2 * i + 2 < A.length → le (at_ A p) (at_ A (2 * i + 2))) : DownInv (swapL A i p) p := by
  have hi : i < A.length := by omega
  refine ⟨?_, ?_⟩
  · intro j j0 hj hne
    rw [swap_length] at hj
    rw [at_swap hi hl, at_swap hi hl, if_neg hne]
    by_cases e1 : (j - 1) / 2 = i
    · rw [if_pos e1]
      by_cases e2 : j = p
      · rw [if_pos e2]; exact h0
      · rw [if_neg e2, if_neg (by omega)]
        rcases (show j = 2 * i + 1 ∨ j = 2 * i + 2 by omega) with rfl | rfl
        · exact h1 hj
        · exact h2 hj
    · rw [if_neg e1, if_neg (by omega)]
      by_cases e2 : j = i
      · subst e2
        rw [if_pos rfl]
        exact h.kids j0 p (by omega) hl (by omega)
      · rw [if_neg e2]
        exact h.all j j0 hj e1
  · intro p0 j j0 hj he
    rw [swap_length] at hj
    rw [at_swap hi hl, at_swap hi hl, if_neg (by omega), if_pos (by omega), if_neg (by omega), if_neg (by omega)]
    have := h.all j j0 hj (by omega)
    rw [he] at this
    exact this
theorem sift_heap : ∀ (f : Nat) (A : List Sl) (i : Nat), A.length - i < f → DownInv A i → Heap (sift f A i)
  | 0, A, i, hf, h => by omega
  | f + 1, A, i, hf, h => by
    rw [sift]
    rcases pick_cases A i with ⟨e, h1, h2⟩ | ⟨hp, hl, h0, h1, h2⟩
    · rw [if_pos e]
      exact h.stop h1 h2
    · rw [if_neg (by omega)]
      exact sift_heap f _ _ (by rw [swap_length]; omega) (h.step hp hl h0 h1 h2)
theorem sift_perm : ∀ (f : Nat) (A : List Sl) (i : Nat), (sift f A i).Perm A
  | 0, A, i => List.Perm.refl _
  | f + 1, A, i => by
    rw [sift]
    rcases pick_cases A i with ⟨e, _⟩ | ⟨hp, hl, _⟩
    · rw [if_pos e]
    · rw [if_neg (by omega)]
      exact (sift_perm f _ _).trans (swap_perm (by omega) hl)
theorem pop_down {S : List Sl} {m : Nat} (h : Heap S) (hl : S.length = m + 1) (s : Sl) : DownInv ((S.take m).set 0 s) 0 := by
  refine ⟨?_, fun h0 => by omega⟩
  intro j j0 hj hne
  have hj' : j < m := by simp at hj; omega
  have e : ∀ k, 0 < k → k < m → at_ ((S.take m).set 0 s) k = at_ S k := by
    intro k k0 hk
    simp [at_, List.getD_eq_getElem?_getD, List.getElem?_set_ne (show 0 ≠ k by omega), hk]
  rw [e j j0 hj', e _ (by omega) (by omega)]
  exact h j j0 (by omega)
theorem pop_heap {S : List Sl} {m : Nat} (h : Heap S) (hl : S.length = m + 1) : Heap (popL S) := by
  unfold popL
  rw [hl, Nat.add_sub_cancel]
  exact sift_heap _ _ _ (by simp; omega) (pop_down h hl _)
theorem pop_perm {S : List Sl} {m : Nat} (hl : S.length = m + 1) : (at_ S 0 :: popL S).Perm S := by
  unfold popL
  rw [hl, Nat.add_sub_cancel]
  refine (List.Perm.cons _ (sift_perm _ _ _)).trans ?_
  cases S with
  | nil => simp at hl
  | cons x T =>
    rcases List.eq_nil_or_concat T with rfl | ⟨T', y, rfl⟩
    · simp at hl
      subst hl
      simp [at_]
    · simp at hl
      have e1 : at_ (x :: T'.concat y) m = y := by
        rw [← hl]
        simp [at_, List.getD_eq_getElem?_getD]
      have e2 : (x :: T'.concat y).take m = x :: T' := by
        rw [← hl]
        simp
      rw [e1, e2]
      simp [at_]
      exact (List.perm_append_singleton y T').symm
end Go.Proofs.Ybulkdjya
