/- Plain: a list that is in order already is not touched: no exchange is made. -/
import Derived.Test.YtdpomoengbpcaaaLaws4
namespace Go.Proofs.Ytdpomoengbpcaaa
open Go.Sort

section
variable {α : Type} [Inhabited α] (lt : α → α → Bool)
/-- No entry comes before one that stands ahead of it. -/
def Asc (n : Nat) (d : Array α) : Prop := ∀ p q, p < q → q < n → lt d[q]! d[p]! = false
/-- Nothing is exchanged between s and t. -/
def Stays (s t : St α) : Prop := t.d = s.d ∧ nS t = nS s
omit [Inhabited α] in
theorem Stays.refl (s : St α) : Stays s s := ⟨rfl, rfl⟩
omit [Inhabited α] in
theorem Stays.trans {s t u : St α} (h : Stays s t) (k : Stays t u) : Stays s u := ⟨k.1.trans h.1, k.2.trans h.2⟩
theorem Stays.ask (s : St α) (i j : Nat) : Stays s (s.ask i j) := ⟨rfl, nS_ask s i j⟩
variable {lt}
theorem Asc.of {n : Nat} {s t : St α} (h : Asc lt n s.d) (k : Stays s t) : Asc lt n t.d := by rw [k.1]; exact h

theorem insIn_stays {n : Nat} (a j : Nat) (s : St α) (h : Asc lt n s.d) (hj : j < n) : Stays s (insIn lt a j s) := by
  cases j with
  | zero => rw [insIn_stop _ _ _ _ (by omega)]; exact .refl _
  | succ j =>
    rcases Nat.lt_or_ge a (j + 1) with h1 | h1
    · rw [insIn_no _ _ _ _ h1 (h j (j + 1) (by omega) hj)]; exact .ask _ _ _
    · rw [insIn_stop _ _ _ _ h1]; exact .refl _
theorem insOut_stays {n : Nat} (a b : Nat) (hb : b ≤ n) : ∀ (k i : Nat) (s : St α), b - i = k → Asc lt n s.d → Stays s (insOut lt a b i s)
  | 0, i, s, hk, _ => by rw [insOut_stop _ _ _ _ _ (by omega)]; exact .refl _
  | k + 1, i, s, hk, h => by
    rw [insOut_go _ _ _ _ _ (by omega)]
    have h1 := insIn_stays a i s h (by omega)
    exact h1.trans (insOut_stays a b hb k (i + 1) _ (by omega) (h.of h1))
theorem insSort_stays {n : Nat} (a b : Nat) (hb : b ≤ n) (s : St α) (h : Asc lt n s.d) : Stays s (insSort lt a b s) := insOut_stays a b hb _ _ s rfl h
theorem bs_stays (q : Nat → Nat × Nat) (pol : Bool) (a b i j : Nat) (s : St α) (hij : i ≤ j) (hq : ∀ h, i ≤ h → h < j → a ≤ (q h).1 ∧ (q h).1 < b ∧ a ≤ (q h).2 ∧ (q h).2 < b) : Stays s (bs lt q pol i j s).2 :=
  ⟨(bs_all lt q pol a b _ i j s rfl hij hq).2.2.1, (bs_cost lt q pol _ i j s rfl).2⟩

theorem symMerge_stays {n : Nat} : ∀ (k a m b : Nat) (s : St α), b - a = k → a < m → m < b → b ≤ n → Asc lt n s.d → Stays s (symMerge lt a m b s) := by
  intro k
  induction k using Nat.strongRecOn with
  | ind k ih =>
    intro a m b s hk ham hmb hbn hA
    by_cases h1 : m - a = 1
    · rw [symMerge_first _ _ _ _ _ h1]
      have hq : ∀ h, m ≤ h → h < b → a ≤ ((fun h => (h, a)) h : Nat × Nat).1 ∧ ((fun h => (h, a)) h : Nat × Nat).1 < b ∧ a ≤ ((fun h => (h, a)) h : Nat × Nat).2 ∧ ((fun h => (h, a)) h : Nat × Nat).2 < b := fun h h1 h2 => ⟨by simp; omega, by simp; omega, by simp, by simp; omega⟩
      have hs := bs_stays (lt := lt) (fun h => (h, a)) true a b m b s (by omega) hq
      obtain ⟨r1, r2, r3, r4, r5, r6⟩ := bs_all lt (fun h => (h, a)) true a b _ m b s rfl (by omega) hq
      have hm : (bs lt (fun h => (h, a)) true m b s).1 = m := by
        rcases r5 with r5 | ⟨h2, _, h3⟩
        · exact r5
        · simp only at h3
          rw [hA a _ (by omega) (by omega)] at h3
          cases h3
      rw [hm, shUp_stop _ _ _ (by omega)]
      exact hs
    · by_cases h2 : b - m = 1
      · rw [symMerge_last _ _ _ _ _ h1 h2]
        have hq : ∀ h, a ≤ h → h < m → a ≤ ((fun h => (m, h)) h : Nat × Nat).1 ∧ ((fun h => (m, h)) h : Nat × Nat).1 < b ∧ a ≤ ((fun h => (m, h)) h : Nat × Nat).2 ∧ ((fun h => (m, h)) h : Nat × Nat).2 < b := fun h h1 h2 => ⟨by simp; omega, by simp; omega, by simp; omega, by simp; omega⟩
        have hs := bs_stays (lt := lt) (fun h => (m, h)) false a b a m s (by omega) hq
        obtain ⟨r1, r2, r3, r4, r5, r6⟩ := bs_all lt (fun h => (m, h)) false a b _ a m s rfl (by omega) hq
        have hm : (bs lt (fun h => (m, h)) false a m s).1 = m := by
          rcases r6 with r6 | ⟨h2, _, h3⟩
          · exact r6
          · simp only at h3
            rw [hA _ m (by omega) (by omega)] at h3
            cases h3
        rw [hm, shDn_stop _ _ _ (Nat.le_refl _)]
        exact hs
      · rw [symMerge_else _ _ _ _ _ h1 h2]
        obtain ⟨e1, e2, e3, e4, e5, e6, e7⟩ := lo_hi a m b (by omega) (by omega)
        obtain ⟨r1, r2, r3, r4, r5, r6⟩ := bsC_all lt a m b s (by omega) (by omega)
        have hs : Stays s (bsC lt a m b s).2 := ⟨r3, (bs_cost lt _ false _ (lo a m b) (hi a m b) s rfl).2⟩
        have hm : (bsC lt a m b s).1 = hi a m b := by
          rcases r6 with r6 | ⟨h2, _, h3⟩
          · exact r6
          · rw [hA _ _ (by omega) (by omega)] at h3
            cases h3
        generalize bsC lt a m b s = r at r1 r2 r3 r4 hs hm ⊢
        obtain ⟨k, s1⟩ := r
        simp only at r1 r2 r3 r4 hs hm ⊢
        have ht : turn a m b (k, s1) = s1 := by
          unfold turn
          rw [if_neg (by simp only; omega)]
        rw [ht]
        have g1 : Stays s1 (half1 lt a b k s1) := by
          unfold half1
          split
          · exact ih _ (by omega) a k _ s1 rfl (by omega) (by omega) (by omega) (hA.of hs)
          · exact .refl _
        refine (hs.trans g1).trans ?_
        have hA2 := (hA.of hs).of g1
        generalize half1 lt a b k s1 = s3 at hA2 ⊢
        unfold half2
        split
        · exact ih _ (by omega) _ _ b s3 rfl (by omega) (by omega) hbn hA2
        · exact .refl _

theorem insBlocks_stays {n : Nat} : ∀ (k a b : Nat) (s : St α), n + 1 - b = k → Asc lt n s.d → Stays s (insBlocks lt n a b s) := by
  intro k
  induction k using Nat.strongRecOn with
  | ind k ih =>
    intro a b s hk hA
    by_cases h : b ≤ n
    · rw [insBlocks_go _ _ _ _ _ h]
      have h1 := insSort_stays a b h s hA
      by_cases hb : b + 20 ≤ n
      · exact h1.trans (ih _ (by omega) _ _ _ rfl (hA.of h1))
      · rw [insBlocks_stop _ _ _ _ _ hb]
        exact h1.trans (insSort_stays b n (Nat.le_refl _) _ (hA.of h1))
    · rw [insBlocks_stop _ _ _ _ _ h]
      exact insSort_stays a n (Nat.le_refl _) s hA
theorem mergePass_stays {n : Nat} (z : Nat) (hz : 0 < z) : ∀ (k a b : Nat) (s : St α), n + 1 - b = k → b = a + 2 * z → Asc lt n s.d → Stays s (mergePass lt n z a b s) := by
  intro k
  induction k using Nat.strongRecOn with
  | ind k ih =>
    intro a b s hk hb hA
    by_cases h : b ≤ n
    · rw [mergePass_go _ _ _ _ _ _ hz h]
      have h1 := symMerge_stays _ a (a + z) b s rfl (by omega) (by omega) h hA
      exact h1.trans (ih _ (by omega) _ _ _ rfl rfl (hA.of h1))
    · by_cases h2 : a + z < n
      · rw [mergePass_last _ _ _ _ _ _ h h2]
        exact symMerge_stays _ a (a + z) n s rfl (by omega) (by omega) (Nat.le_refl _) hA
      · rw [mergePass_stop _ _ _ _ _ _ h h2]; exact .refl _
theorem passes_stays {n : Nat} : ∀ (k z : Nat) (s : St α), n - z = k → 0 < z → Asc lt n s.d → Stays s (passes lt n z s) := by
  intro k
  induction k using Nat.strongRecOn with
  | ind k ih =>
    intro z s hk hz hA
    by_cases h : z < n
    · rw [passes_go _ _ _ _ hz h]
      have h1 := mergePass_stays (n := n) z hz _ 0 (2 * z) s rfl (by omega) hA
      exact h1.trans (ih _ (by omega) _ _ rfl (by omega) (hA.of h1))
    · rw [passes_stop _ _ _ _ h]; exact .refl _
/-- A LIST IN ORDER IS NOT TOUCHED. -/
theorem stable_stays (n : Nat) (s : St α) (hA : Asc lt n s.d) : Stays s (stable lt n s) := by
  have h1 := insBlocks_stays (n := n) _ 0 20 s rfl hA
  exact h1.trans (passes_stays _ 20 _ rfl (by omega) (hA.of h1))
end
end Go.Proofs.Ytdpomoengbpcaaa
