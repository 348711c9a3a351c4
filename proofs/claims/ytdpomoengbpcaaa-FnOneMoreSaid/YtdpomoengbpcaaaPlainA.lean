/- Plain laws: by a weak order of the keys, what the sort gives is what spec.Arranged tells; the table of ranks is a weak order. -/
import Derived.Test.YtdpomoengbpcaaaHelpE
import Derived.Test.YtdpomoengbpcaaaStab
namespace Go.Proofs.Ytdpomoengbpcaaa
open Go.Sort

/-- The signs S are a strict weak order of the keys of which P holds. -/
structure WeakK (S : Int → Int → Int) (P : Int → Prop) : Prop where
  anti : ∀ a b, P a → P b → S a b = - S b a
  lts : ∀ a b c, P a → P b → P c → S a b < 0 → S b c < 0 → S a c < 0
  eqs : ∀ a b c, P a → P b → P c → S a b = 0 → S b c = 0 → S a c = 0

theorem WeakK.ntrans {S : Int → Int → Int} {P : Int → Prop} (h : WeakK S P) {a b c : Int} (ha : P a) (hb : P b) (hc : P c) (h1 : ¬ S a b < 0) (h2 : ¬ S b c < 0) : ¬ S a c < 0 := by
  intro h3
  have e1 := h.anti a b ha hb
  have e2 := h.anti b c hb hc
  have e3 := h.anti a c ha hc
  by_cases x : S a b = 0
  · by_cases y : S b c = 0
    · have := h.eqs a b c ha hb hc x y; omega
    · have := h.lts a c b ha hc hb h3 (by omega); omega
  · have := h.lts b a c hb ha hc (by omega) h3; omega

theorem sgn_neg (x : Int) : sgn x < 0 ↔ x < 0 := by unfold sgn; split <;> (try split) <;> omega
theorem sgn_zero (x : Int) : sgn x = 0 ↔ x = 0 := by unfold sgn; split <;> (try split) <;> omega
theorem sgn_neg_of (x : Int) : sgn (-x) = - sgn x := by unfold sgn; repeat' split
                                                        all_goals omega
theorem ltT_iff (N : Int) (zs : List Int) (x y : It) : ltT N zs x y = true ↔ sg N zs x.1 y.1 < 0 := by unfold ltT sg; rw [decide_eq_true_iff, sgn_neg]

theorem WeakK.weak {N : Int} {zs : List Int} {P : Int → Prop} (h : WeakK (sg N zs) P) {C : It → Prop} (hC : ∀ x, C x → P x.1) : Weak (ltT N zs) C where
  asym x y hx hy hl := by
    rw [ltT_iff] at hl
    rw [Bool.eq_false_iff, ne_eq, ltT_iff]
    have := h.anti x.1 y.1 (hC x hx) (hC y hy); omega
  trans x y z hx hy hz h1 h2 := by
    rw [ltT_iff] at h1 h2 ⊢
    exact h.lts _ _ _ (hC x hx) (hC y hy) (hC z hz) h1 h2
  ntrans x y z hx hy hz h1 h2 := by
    rw [Bool.eq_false_iff, ne_eq, ltT_iff] at h1 h2 ⊢
    exact h.ntrans (hC x hx) (hC y hy) (hC z hz) h1 h2

/-! ### The entries of some keys -/
theorem ents_at (ks : List Int) (i : Nat) (h : i < ks.length) : (ents ks)[i]? = some (ks.getD i 0, (i : Int)) := by
  simp [ents, List.getD_eq_getElem?_getD, List.getElem?_eq_getElem h, List.getElem?_zipIdx]
theorem ents_at_of {ks : List Int} {i : Nat} {x : It} (h : (ents ks)[i]? = some x) : i < ks.length ∧ x = (ks.getD i 0, (i : Int)) := by
  have h1 : i < ks.length := by
    have := (List.getElem?_eq_some_iff.1 h).1
    rwa [ents_length] at this
  rw [ents_at ks i h1] at h
  injection h with h
  exact ⟨h1, h.symm⟩
theorem ents_mem {ks : List Int} {x : It} (h : x ∈ ents ks) : ∃ i : Nat, i < ks.length ∧ x = (ks.getD i 0, (i : Int)) := by
  obtain ⟨i, hi⟩ := List.getElem?_of_mem h
  exact ⟨i, ents_at_of hi⟩
theorem ents_nodup (ks : List Int) : (ents ks).Nodup := by
  rw [List.nodup_iff_pairwise_ne, List.pairwise_iff_getElem]
  intro i j hi hj hij e
  have h1 := ents_at_of (List.getElem?_eq_getElem hi)
  have h2 := ents_at_of (List.getElem?_eq_getElem hj)
  rw [h1.2, h2.2] at e
  have e2 := (Prod.mk.inj e).2
  omega
theorem ents_bef {ks : List Int} {i j : Nat} (hi : i < ks.length) (hj : j < ks.length) : Bef (ents ks) (ks.getD i 0, (i : Int)) (ks.getD j 0, (j : Int)) ↔ i < j := by
  constructor
  · rintro ⟨p, q, h1, h2, h3⟩
    have e1 := (Prod.mk.inj (ents_at_of h2).2).2
    have e2 := (Prod.mk.inj (ents_at_of h3).2).2
    omega
  · intro h
    exact ⟨i, j, h, ents_at ks i hi, ents_at ks j hj⟩
theorem ents_keys {P : Int → Prop} {ks : List Int} (h : ∀ k ∈ ks, P k) : ∀ x, x ∈ ents ks → P x.1 := by
  intro x hx
  obtain ⟨i, hi, rfl⟩ := ents_mem hx
  refine h _ ?_
  rw [List.getD_eq_getElem?_getD, List.getElem?_eq_getElem hi]
  exact List.getElem_mem hi

theorem ents_countP (ks : List Int) (b : It → Bool) : (ents ks).countP b = (List.range ks.length).countP fun i => b (ks.getD i 0, (i : Int)) := by
  have : ents ks = (List.range ks.length).map fun i => (ks.getD i 0, (i : Int)) := by
    apply List.ext_getElem?
    intro i
    by_cases h : i < ks.length
    · rw [ents_at ks i h]; simp [h]
    · rw [List.getElem?_eq_none (by rw [ents_length]; omega), List.getElem?_eq_none (by simp; omega)]
  rw [this, List.countP_map]; rfl

theorem arrTo_at (S : Int → Int → Int) (ks : List Int) (hlt : ∀ i, i < ks.length → placeTo S ks i ks.length < ks.length) (hinj : ∀ i j, i < ks.length → j < ks.length → placeTo S ks i ks.length = placeTo S ks j ks.length → i = j) :
    ∀ k, k ≤ ks.length → ∀ i, i < k → (arrTo S ks k).getD (placeTo S ks i ks.length) 0 = (i : Int)
  | 0, _, i, hi => by omega
  | k + 1, hk, i, hi => by
    rw [arrTo_succ, List.getD_eq_getElem?_getD, List.getElem?_set]
    by_cases e : i = k
    · subst e
      rw [if_pos rfl, if_pos (by rw [arrTo_length]; exact hlt i (by omega))]; rfl
    · rw [if_neg (fun h => e (hinj k i (by omega) (by omega) h).symm), ← List.getD_eq_getElem?_getD]
      exact arrTo_at S ks hlt hinj k (by omega) i (by omega)

/-- Where entry i lies behind the sort. -/
theorem sorted_place {N : Int} {zs : List Int} {P : Int → Prop} (hW : WeakK (sg N zs) P) (ks : List Int) (hks : ∀ k ∈ ks, P k) (p : Nat) (x : It) (hx : (sorted (ltT N zs) (ents ks))[p]? = some x) :
    ∃ i, i < ks.length ∧ x = (ks.getD i 0, (i : Int)) ∧ placeTo (sg N zs) ks i ks.length = p := by
  have hw : Weak (ltT N zs) (· ∈ ents ks) := hW.weak (ents_keys hks)
  have hperm : (sorted (ltT N zs) (ents ks)).Perm (ents ks) := sortedA_perm (ltT N zs) (ents ks)
  have hpw : (sorted (ltT N zs) (ents ks)).Pairwise (Rl (ltT N zs) (ents ks)) := sortedA_pairwise (ltT N zs) (ents ks) hw (ents_nodup ks)
  have hmem := hperm.mem_iff.1 (List.mem_of_getElem? hx)
  obtain ⟨i, hi, rfl⟩ := ents_mem hmem
  refine ⟨i, hi, rfl, ?_⟩
  have hPi : ∀ j, j < ks.length → P (ks.getD j 0) := fun j hj => hks _ (by rw [List.getD_eq_getElem?_getD, List.getElem?_eq_getElem hj]; exact List.getElem_mem hj)
  have hc := place_count (Rl (ltT N zs) (ents ks)) (fun y : It => decide (sg N zs y.1 (ks.getD i 0) < 0) || (decide (sg N zs y.1 (ks.getD i 0) = 0) && decide (y.2 < (i : Int)))) _ p _ hx hpw
    (fun y hy h k => h.asym hw (ents_nodup ks) hmem (hperm.mem_iff.1 hy) k) (by
    intro y hy
    obtain ⟨j, hj, rfl⟩ := ents_mem (hperm.mem_iff.1 hy)
    simp only [Bool.or_eq_true, Bool.and_eq_true, decide_eq_true_eq, Rl]
    rw [ltT_iff, Bool.eq_false_iff, ne_eq, ltT_iff, ents_bef hj hi]
    have ha := hW.anti (ks.getD j 0) (ks.getD i 0) (hPi j hj) (hPi i hi)
    constructor
    · rintro (h | ⟨h1, h2⟩)
      · exact .inl h
      · exact .inr ⟨by simp only; omega, by omega⟩
    · rintro (h | ⟨h1, h2⟩)
      · exact .inl h
      · simp only at h1
        by_cases e : sg N zs (ks.getD j 0) (ks.getD i 0) < 0
        · exact .inl e
        · exact .inr ⟨by omega, by omega⟩)
  rw [hperm.countP_eq, ents_countP] at hc
  rw [← hc]
  unfold placeTo
  apply List.countP_congr
  intro j _
  unfold befB
  simp only [Int.ofNat_lt]

/-- THE SORT GIVES THE ARRANGEMENT THAT spec.Arranged TELLS. -/
theorem sorted_arranged {N : Int} {zs : List Int} {P : Int → Prop} (hW : WeakK (sg N zs) P) (ks : List Int) (hks : ∀ k ∈ ks, P k) : arrB (sorted (ltT N zs) (ents ks)) ks (arrTo (sg N zs) ks ks.length) = true := by
  have hlen : (sorted (ltT N zs) (ents ks)).length = ks.length := by rw [sorted_length, ents_length]
  have at_ : ∀ p, p < ks.length → ∃ i, i < ks.length ∧ (sorted (ltT N zs) (ents ks))[p]? = some (ks.getD i 0, (i : Int)) ∧ placeTo (sg N zs) ks i ks.length = p := by
    intro p hp
    obtain ⟨i, h1, h2, h3⟩ := sorted_place hW ks hks p _ (List.getElem?_eq_getElem (by rw [hlen]; exact hp))
    exact ⟨i, h1, by rw [List.getElem?_eq_getElem (by rw [hlen]; exact hp), h2], h3⟩
  have hwhere : ∀ i, i < ks.length → placeTo (sg N zs) ks i ks.length < ks.length ∧ (sorted (ltT N zs) (ents ks))[placeTo (sg N zs) ks i ks.length]? = some (ks.getD i 0, (i : Int)) := by
    intro i hi
    have hm : (ks.getD i 0, (i : Int)) ∈ sorted (ltT N zs) (ents ks) := (sortedA_perm (ltT N zs) (ents ks)).mem_iff.2 (List.mem_of_getElem? (ents_at ks i hi))
    obtain ⟨p, hp⟩ := List.getElem?_of_mem hm
    obtain ⟨i', h1, h2, h3⟩ := sorted_place hW ks hks p _ hp
    have e : i = i' := by have := (Prod.mk.inj h2).2; omega
    subst e
    have hpl : p < ks.length := by have := (List.getElem?_eq_some_iff.1 hp).1; rwa [hlen] at this
    rw [h3]; exact ⟨hpl, hp⟩
  have hinj : ∀ i j, i < ks.length → j < ks.length → placeTo (sg N zs) ks i ks.length = placeTo (sg N zs) ks j ks.length → i = j := by
    intro i j hi hj e
    have h1 := (hwhere i hi).2
    rw [e, (hwhere j hj).2] at h1
    injection h1 with h1
    have := (Prod.mk.inj h1).2
    omega
  unfold arrB
  rw [arrTo_length, hlen, Bool.and_eq_true, decide_eq_true_eq]
  refine ⟨rfl, ?_⟩
  rw [List.all_eq_true]
  intro p hp
  obtain ⟨i, h1, h2, h3⟩ := at_ p (List.mem_range.1 hp)
  have ho : (arrTo (sg N zs) ks ks.length).getD p 0 = (i : Int) := by rw [← h3]; exact arrTo_at (sg N zs) ks (fun i hi => (hwhere i hi).1) hinj ks.length (Nat.le_refl _) i h1
  rw [ho]
  unfold arrAt
  rw [List.getD_eq_getElem?_getD, h2]
  simp

/-- Each of spec.Arranged's indices is one of the list. -/
theorem arrTo_in (S : Int → Int → Int) (ks : List Int) : ∀ k, k ≤ ks.length → ∀ p, p < ks.length → 0 ≤ (arrTo S ks k).getD p 0 ∧ (arrTo S ks k).getD p 0 < (ks.length : Int)
  | 0, _, p, hp => by
    have : (arrTo S ks 0).getD p 0 = 0 := by simp [arrTo, List.getD_eq_getElem?_getD, hp]
    rw [this]; omega
  | k + 1, hk, p, hp => by
    rw [arrTo_succ, List.getD_eq_getElem?_getD, List.getElem?_set]
    split
    · split
      · simp; omega
      · rename_i h1 h2; rw [arrTo_length] at h2; omega
    · rw [← List.getD_eq_getElem?_getD]; exact arrTo_in S ks k (by omega) p hp

/-! ### The table of ranks -/
theorem rankT_at (zs : List Int) (a b : Nat) (ha : a < zs.length) (hb : b < zs.length) : (rankT zs).getD (a * zs.length + b) 0 = cmpS (zs.getD a 0) (zs.getD b 0) := by
  unfold rankT
  have key : ∀ (l : List Int) (a : Nat), a < l.length → (l.flatMap (rankRow zs))[a * zs.length + b]? = some (cmpS (l.getD a 0) (zs.getD b 0)) := by
    intro l
    induction l with
    | nil => intro a h; simp at h
    | cons x r ih =>
      intro a h
      rw [List.flatMap_cons]
      cases a with
      | zero =>
        rw [Nat.zero_mul, Nat.zero_add, List.getElem?_append_left (by rw [rankRow_length]; exact hb)]
        simp [rankRow, List.getElem?_eq_getElem hb, List.getD_eq_getElem?_getD]
      | succ a =>
        rw [List.getElem?_append_right (by rw [rankRow_length, Nat.add_mul]; omega), rankRow_length, show (a + 1) * zs.length + b - zs.length = a * zs.length + b from by rw [Nat.add_mul]; omega, ih a (by simpa using h)]
        simp
  rw [List.getD_eq_getElem?_getD, key zs a ha]; rfl
theorem rankT_length (zs : List Int) : (rankT zs).length = zs.length * zs.length := rankT_take_length zs zs

/-- By the table of ranks: the sign of the difference of the ranks. -/
theorem sg_rank (zs : List Int) (hz : zs.length ≤ 1000) (a b : Int) (ha : 0 ≤ a ∧ a < zs.length) (hb : 0 ≤ b ∧ b < zs.length) : sg (zs.length : Int) (rankT zs) a b = cmpS (zs.getD a.toNat 0) (zs.getD b.toNat 0) := by
  obtain ⟨x, rfl⟩ := Int.eq_ofNat_of_zero_le ha.1
  obtain ⟨y, rfl⟩ := Int.eq_ofNat_of_zero_le hb.1
  have hx : x < zs.length := by omega
  have hy : y < zs.length := by omega
  unfold sg num
  have hbd : x * zs.length + y < zs.length * zs.length := by
    have := Nat.mul_le_mul_right zs.length (show x + 1 ≤ zs.length from hx)
    rw [Nat.add_mul, Nat.one_mul] at this; omega
  have hcast : (x : Int) * (zs.length : Int) + (y : Int) = ((x * zs.length + y : Nat) : Int) := by rw [Int.natCast_add, Int.natCast_mul]
  rw [hcast, rankT_length, if_neg (by rintro (h | h | h | h | h | h) <;> omega), Int.toNat_natCast, rankT_at zs x y hx hy, Int.toNat_natCast, Int.toNat_natCast]
  unfold cmpS
  repeat' split
  all_goals rfl

theorem rank_weak (zs : List Int) (hz : zs.length ≤ 1000) : WeakK (sg (zs.length : Int) (rankT zs)) (fun k => 0 ≤ k ∧ k < (zs.length : Int)) where
  anti a b ha hb := by
    rw [sg_rank zs hz a b ha hb, sg_rank zs hz b a hb ha]; unfold cmpS; repeat' split
    all_goals omega
  lts a b c ha hb hc := by
    rw [sg_rank zs hz a b ha hb, sg_rank zs hz b c hb hc, sg_rank zs hz a c ha hc]; unfold cmpS; repeat' split
    all_goals omega
  eqs a b c ha hb hc := by
    rw [sg_rank zs hz a b ha hb, sg_rank zs hz b c hb hc, sg_rank zs hz a c ha hc]; unfold cmpS; repeat' split
    all_goals omega
theorem rankKeys_in (n : Nat) (ks : List Int) : ∀ k ∈ rankKeys n ks, 0 ≤ k ∧ k < (n : Int) := by
  intro k hk
  have := (List.mem_filter.1 hk).2
  simpa using this
theorem rankKeys_le (n : Nat) (ks : List Int) : (rankKeys n ks).length ≤ 3000 := by
  have h1 : (rankKeys n ks).length ≤ (ks.take 3000).length := List.length_filter_le _ _
  rw [List.length_take] at h1; omega
end Go.Proofs.Ytdpomoengbpcaaa
