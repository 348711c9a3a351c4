/- Plain laws of the stable sort: how many times it asks and exchanges; no program in this text. -/
import Derived.Test.YtdpomoengbpcaaaLaws1
namespace Go.Proofs.Ytdpomoengbpcaaa
open Go.Sort
variable {α : Type} [Inhabited α] (lt : α → α → Bool)

def Ev.isL : Ev α → Bool
  | .less _ _ _ _ => true
  | .swap _ _ => false
/-- How often it was asked, how often exchanged. -/
def nL (s : St α) : Nat := s.log.countP Ev.isL
def nS (s : St α) : Nat := s.log.countP fun e => !e.isL

@[simp] theorem nL_ask (s : St α) (i j : Nat) : nL (s.ask i j) = nL s + 1 := by simp [nL, Ev.isL]
@[simp] theorem nS_ask (s : St α) (i j : Nat) : nS (s.ask i j) = nS s := by simp [nS, Ev.isL]
@[simp] theorem nL_swap (s : St α) (i j : Nat) : nL (s.swap i j) = nL s := by simp [nL, Ev.isL]
@[simp] theorem nS_swap (s : St α) (i j : Nat) : nS (s.swap i j) = nS s + 1 := by simp [nS, Ev.isL]
omit [Inhabited α] in
theorem log_length (s : St α) : s.log.length = nL s + nS s := by
  unfold nL nS
  generalize s.log = l
  induction l with
  | nil => rfl
  | cons e r ih =>
    rw [List.length_cons, List.countP_cons, List.countP_cons, ih]
    cases e <;> simp only [Ev.isL] <;> simp <;> omega

theorem insIn_cost (a : Nat) : ∀ (j : Nat) (s : St α), nL (insIn lt a j s) ≤ nL s + (j - a) ∧ nS (insIn lt a j s) ≤ nS s + (j - a)
  | 0, s => by rw [insIn_stop _ _ _ _ (by omega)]; exact ⟨by omega, by omega⟩
  | j + 1, s => by
    rcases Nat.lt_or_ge a (j + 1) with h | h
    · cases hl : lt s.d[j + 1]! s.d[j]! with
      | true =>
        rw [insIn_go _ _ _ _ h hl]
        have := insIn_cost a j ((s.ask (j + 1) j).swap (j + 1) j)
        simp only [nL_ask, nL_swap, nS_ask, nS_swap] at this
        omega
      | false => rw [insIn_no _ _ _ _ h hl, nL_ask, nS_ask]; omega
    · rw [insIn_stop _ _ _ _ h]; omega
theorem insOut_cost (a b : Nat) : ∀ (k i : Nat) (s : St α), b - i = k → nL (insOut lt a b i s) ≤ nL s + k * (b - a) ∧ nS (insOut lt a b i s) ≤ nS s + k * (b - a)
  | 0, i, s, hk => by rw [insOut_stop _ _ _ _ _ (by omega)]; omega
  | k + 1, i, s, hk => by
    rw [insOut_go _ _ _ _ _ (by omega)]
    have h1 := insIn_cost lt a i s
    have h2 := insOut_cost a b k (i + 1) (insIn lt a i s) (by omega)
    rw [Nat.add_mul, Nat.one_mul]
    omega
theorem insSort_cost (a b : Nat) (s : St α) (h : b - a ≤ 20) : nL (insSort lt a b s) ≤ nL s + 20 * (b - a) ∧ nS (insSort lt a b s) ≤ nS s + 20 * (b - a) := by
  have h1 := insOut_cost lt a b (b - (a + 1)) (a + 1) s rfl
  have h2 : (b - (a + 1)) * (b - a) ≤ 20 * (b - a) := Nat.mul_le_mul_right _ (by omega)
  unfold insSort
  omega
theorem insBlocks_cost (n : Nat) : ∀ (k a : Nat) (s : St α), n + 1 - (a + 20) = k → a ≤ n → nL (insBlocks lt n a (a + 20) s) ≤ nL s + 20 * (n - a) ∧ nS (insBlocks lt n a (a + 20) s) ≤ nS s + 20 * (n - a) := by
  intro k
  induction k using Nat.strongRecOn with
  | ind k ih =>
    intro a s hk ha
    by_cases h : a + 20 ≤ n
    · rw [insBlocks_go _ _ _ _ _ h]
      have h1 := insSort_cost lt a (a + 20) s (by omega)
      have h2 := ih _ (by omega) (a + 20) (insSort lt a (a + 20) s) rfl h
      omega
    · rw [insBlocks_stop _ _ _ _ _ h]
      exact insSort_cost lt a n s (by omega)
theorem bs_cost (q : Nat → Nat × Nat) (pol : Bool) : ∀ (k i j : Nat) (s : St α), j - i = k → nL (bs lt q pol i j s).2 ≤ nL s + k ∧ nS (bs lt q pol i j s).2 = nS s := by
  intro k
  induction k using Nat.strongRecOn with
  | ind k ih =>
    intro i j s hk
    by_cases h : i < j
    · by_cases hl : lt s.d[(q ((i + j) / 2)).1]! s.d[(q ((i + j) / 2)).2]! = pol
      · rw [bs_yes _ _ _ _ _ _ h hl]
        have := ih (j - ((i + j) / 2 + 1)) (by omega) _ _ (s.ask (q ((i + j) / 2)).1 (q ((i + j) / 2)).2) rfl
        rw [nL_ask, nS_ask] at this
        omega
      · rw [bs_no _ _ _ _ _ _ h (by cases pol <;> simpa using hl)]
        have := ih ((i + j) / 2 - i) (by omega) _ _ (s.ask (q ((i + j) / 2)).1 (q ((i + j) / 2)).2) rfl
        rw [nL_ask, nS_ask] at this
        omega
    · rw [bs_stop _ _ _ _ _ _ h]; exact ⟨by simp, rfl⟩
theorem shUp_cost (e : Nat) : ∀ (k i : Nat) (s : St α), e - i = k → nL (shUp e i s) = nL s ∧ nS (shUp e i s) = nS s + k
  | 0, i, s, hk => by rw [shUp_stop _ _ _ (by omega)]; omega
  | k + 1, i, s, hk => by
    rw [shUp_go _ _ _ (by omega)]
    have := shUp_cost e k (i + 1) (s.swap i (i + 1)) (by omega)
    rw [nL_swap, nS_swap] at this; omega
theorem shDn_cost (i : Nat) : ∀ (k : Nat) (s : St α), nL (shDn i k s) = nL s ∧ nS (shDn i k s) = nS s + (k - i)
  | 0, s => by rw [shDn_stop _ _ _ (by omega)]; omega
  | k + 1, s => by
    rcases Nat.lt_or_ge i (k + 1) with h | h
    · rw [shDn_go _ _ _ h]
      have := shDn_cost i k (s.swap (k + 1) k)
      rw [nL_swap, nS_swap] at this; omega
    · rw [shDn_stop _ _ _ h]; omega
theorem swRange_cost (a b n : Nat) : ∀ (k i : Nat) (s : St α), n - i = k → nL (swRange a b n i s) = nL s ∧ nS (swRange a b n i s) = nS s + k
  | 0, i, s, hk => by rw [swRange_stop _ _ _ _ _ (by omega)]; omega
  | k + 1, i, s, hk => by
    rw [swRange_go _ _ _ _ _ (by omega)]
    have := swRange_cost a b n k (i + 1) (s.swap (a + i) (b + i)) (by omega)
    rw [nL_swap, nS_swap] at this; omega
theorem rot_cost (m : Nat) : ∀ (k i j : Nat) (s : St α), i + j = k → 0 < i → 0 < j → nL (rot m i j s) = nL s ∧ nS (rot m i j s) ≤ nS s + k := by
  intro k
  induction k using Nat.strongRecOn with
  | ind k ih =>
    intro i j s hk hi hj
    rcases Nat.lt_trichotomy i j with h | h | h
    · rw [rot_right _ _ _ _ hi h]
      have h1 := swRange_cost (m - i) (m + j - i) i i 0 s (by omega)
      have h2 := ih _ (by omega) i (j - i) (swRange (m - i) (m + j - i) i 0 s) rfl hi (by omega)
      omega
    · subst h
      rw [rot_end _ _ _ hi]
      have h1 := swRange_cost (m - i) m i i 0 s (by omega)
      omega
    · rw [rot_left _ _ _ _ hj h]
      have h1 := swRange_cost (m - i) m j j 0 s (by omega)
      have h2 := ih _ (by omega) (i - j) j (swRange (m - i) m j 0 s) rfl (by omega) hj
      omega
theorem symMerge_cost : ∀ (t a m b : Nat) (s : St α), 1 ≤ t → b - a ≤ 2 ^ t → a < m → m < b → nL (symMerge lt a m b s) ≤ nL s + (b - a) * t ∧ nS (symMerge lt a m b s) ≤ nS s + (b - a) * t := by
  intro t
  induction t with
  | zero => intro a m b s h; omega
  | succ t ih =>
    intro a m b s _ hp ham hmb
    have hone : b - a ≤ (b - a) * (t + 1) := Nat.le_mul_of_pos_right _ (by omega)
    by_cases h1 : m - a = 1
    · rw [symMerge_first _ _ _ _ _ h1]
      have c1 := bs_cost lt (fun h => (h, a)) true _ m b s rfl
      obtain ⟨r1, r2, _⟩ := bs_all lt (fun h => (h, a)) true a b _ m b s rfl (by omega) (fun h h1 h2 => ⟨by simp; omega, by simp; omega, by simp, by simp; omega⟩)
      have c2 := shUp_cost ((bs lt (fun h => (h, a)) true m b s).1 - 1) _ a (bs lt (fun h => (h, a)) true m b s).2 rfl
      omega
    · by_cases h2 : b - m = 1
      · rw [symMerge_last _ _ _ _ _ h1 h2]
        have c1 := bs_cost lt (fun h => (m, h)) false _ a m s rfl
        have c2 := shDn_cost (bs lt (fun h => (m, h)) false a m s).1 m (bs lt (fun h => (m, h)) false a m s).2
        have r1 := (bs_all lt (fun h => (m, h)) false a b _ a m s rfl (by omega) (fun h h1 h2 => ⟨by simp; omega, by simp; omega, by simp; omega, by simp; omega⟩)).1
        omega
      · rw [symMerge_else _ _ _ _ _ h1 h2]
        obtain ⟨e1, e2, e3, e4, e5, e6, e7⟩ := lo_hi a m b (by omega) (by omega)
        obtain ⟨r1, r2, r3, r4, r5, r6⟩ := bsC_all lt a m b s (by omega) (by omega)
        have c1 : nL (bsC lt a m b s).2 ≤ nL s + (hi a m b - lo a m b) ∧ nS (bsC lt a m b s).2 = nS s := bs_cost lt _ _ _ _ _ s rfl
        generalize bsC lt a m b s = r at r1 r2 r3 r4 r5 r6 c1 ⊢
        obtain ⟨k, s1⟩ := r
        simp only at r1 r2 r3 r4 r5 r6 c1 ⊢
        generalize hmid : (a + b) / 2 = mid at *
        have c2 : nL (turn a m b (k, s1)) = nL s1 ∧ nS (turn a m b (k, s1)) ≤ nS s1 + (b - a) := by
          unfold turn
          split
          · rename_i h
            simp only [hmid] at h ⊢
            unfold rotate
            have := rot_cost m _ (m - k) (mid + m - k - m) s1 rfl (by omega) (by omega)
            omega
          · exact ⟨rfl, Nat.le_add_right _ _⟩
        generalize turn a m b (k, s1) = s2 at c2 ⊢
        have tp : 0 < t := by
          rcases Nat.eq_zero_or_pos t with h0 | h0
          · subst h0; simp at hp; omega
          · exact h0
        have pw : 2 ^ (t + 1) = 2 ^ t * 2 := Nat.pow_succ 2 t
        have c3 : nL (half1 lt a b k s2) ≤ nL s2 + (mid - a) * t ∧ nS (half1 lt a b k s2) ≤ nS s2 + (mid - a) * t := by
          unfold half1; rw [hmid]; split
          · exact ih a k mid s2 tp (by omega) (by omega) (by omega)
          · omega
        generalize half1 lt a b k s2 = s3 at c3 ⊢
        have c4 : nL (half2 lt a m b k s3) ≤ nL s3 + (b - mid) * t ∧ nS (half2 lt a m b k s3) ≤ nS s3 + (b - mid) * t := by
          unfold half2; rw [hmid]; split
          · exact ih mid _ b s3 tp (by omega) (by omega) (by omega)
          · omega
        have sum : (mid - a) * t + (b - mid) * t = (b - a) * t := by rw [← Nat.add_mul]; congr 1; omega
        have mul : (b - a) * (t + 1) = (b - a) * t + (b - a) := by rw [Nat.mul_add, Nat.mul_one]
        omega
theorem mergePass_cost (n z t : Nat) (hz : 0 < z) (ht : 1 ≤ t) (h2 : 2 * z ≤ 2 ^ t) : ∀ (k a : Nat) (s : St α), n + 1 - (a + 2 * z) = k → a ≤ n → nL (mergePass lt n z a (a + 2 * z) s) ≤ nL s + (n - a) * t ∧ nS (mergePass lt n z a (a + 2 * z) s) ≤ nS s + (n - a) * t := by
  intro k
  induction k using Nat.strongRecOn with
  | ind k ih =>
    intro a s hk ha
    by_cases h : a + 2 * z ≤ n
    · rw [mergePass_go _ _ _ _ _ _ hz h]
      have h1 := symMerge_cost lt t a (a + z) (a + 2 * z) s ht (by omega) (by omega) (by omega)
      have h3 := ih _ (by omega) (a + 2 * z) (symMerge lt a (a + z) (a + 2 * z) s) rfl h
      have sum : (a + 2 * z - a) * t + (n - (a + 2 * z)) * t = (n - a) * t := by rw [← Nat.add_mul]; congr 1; omega
      omega
    · by_cases h3 : a + z < n
      · rw [mergePass_last _ _ _ _ _ _ h h3]
        exact symMerge_cost lt t a (a + z) n s ht (by omega) (by omega) h3
      · rw [mergePass_stop _ _ _ _ _ _ h h3]; omega
theorem passes_cost (n t : Nat) (ht : 1 ≤ t) (h2 : ∀ z, z < n → 2 * z ≤ 2 ^ t) : ∀ (f z : Nat) (s : St α), 0 < z → n ≤ z * 2 ^ f → nL (passes lt n z s) ≤ nL s + f * (n * t) ∧ nS (passes lt n z s) ≤ nS s + f * (n * t)
  | 0, z, s, hz, hf => by rw [passes_stop _ _ _ _ (by omega)]; omega
  | f + 1, z, s, hz, hf => by
    by_cases h : z < n
    · rw [passes_go _ _ _ _ hz h]
      have h1 := mergePass_cost lt n z t hz ht (h2 z h) _ 0 s rfl (by omega)
      rw [Nat.zero_add] at h1
      have h3 := passes_cost n t ht h2 f (z * 2) (mergePass lt n z 0 (2 * z) s) (by omega) (by rw [Nat.pow_succ] at hf; rw [Nat.mul_assoc, Nat.mul_comm 2]; exact hf)
      rw [Nat.add_mul, Nat.one_mul]
      have e : (n - 0) * t = n * t := by rw [Nat.sub_zero]
      omega
    · rw [passes_stop _ _ _ _ h]; omega
/-- HOW OFTEN THE SORT ASKS AND EXCHANGES: at most 20 n + b (b + 1) n each, where n is below 2^b. -/
theorem stable_cost (n b : Nat) (s : St α) (hb : n < 2 ^ b) : nL (stable lt n s) ≤ nL s + (20 * n + b * (n * (b + 1))) ∧ nS (stable lt n s) ≤ nS s + (20 * n + b * (n * (b + 1))) := by
  unfold stable
  have h1 := insBlocks_cost lt n _ 0 s rfl (by omega)
  rw [Nat.zero_add] at h1
  have h2 := passes_cost lt n (b + 1) (by omega) (fun z hz => by rw [Nat.pow_succ]; omega) b 20 (insBlocks lt n 0 20 s) (by omega) (by omega)
  omega
theorem Run.len {a b : Nat} {s t : St α} (h : Run a b s t) : s.log.length ≤ t.log.length := by
  obtain ⟨evs, he⟩ := h.log
  rw [he, List.length_append]; omega

/-! ### Each round of a loop lays one event at least -/
theorem swRange_len (a b n i : Nat) (s : St α) (h : i < n) : s.log.length + 1 ≤ (swRange a b n i s).log.length := by
  rw [swRange_go _ _ _ _ _ h]
  have := (swRange_run 0 (a + b + n) a b n (by omega) (by omega) (by omega) (by omega) _ (i + 1) (s.swap (a + i) (b + i)) rfl).len
  simpa using this
theorem bs_len (q : Nat → Nat × Nat) (pol : Bool) (i j : Nat) (s : St α) (h : i < j) : s.log.length + 1 ≤ (bs lt q pol i j s).2.log.length := by
  have key : ∀ (k i j : Nat) (s : St α), j - i = k → s.log.length ≤ (bs lt q pol i j s).2.log.length := by
    intro k
    induction k using Nat.strongRecOn with
    | ind k ih =>
      intro i j s hk
      by_cases h : i < j
      · by_cases hl : lt s.d[(q ((i + j) / 2)).1]! s.d[(q ((i + j) / 2)).2]! = pol
        · rw [bs_yes _ _ _ _ _ _ h hl]
          have := ih (j - ((i + j) / 2 + 1)) (by omega) _ _ (s.ask (q ((i + j) / 2)).1 (q ((i + j) / 2)).2) rfl
          simp at this; omega
        · rw [bs_no _ _ _ _ _ _ h (by cases pol <;> simpa using hl)]
          have := ih ((i + j) / 2 - i) (by omega) _ _ (s.ask (q ((i + j) / 2)).1 (q ((i + j) / 2)).2) rfl
          simp at this; omega
      · rw [bs_stop _ _ _ _ _ _ h]; simp
  by_cases hl : lt s.d[(q ((i + j) / 2)).1]! s.d[(q ((i + j) / 2)).2]! = pol
  · rw [bs_yes _ _ _ _ _ _ h hl]
    have := key _ ((i + j) / 2 + 1) j (s.ask (q ((i + j) / 2)).1 (q ((i + j) / 2)).2) rfl
    simpa using this
  · rw [bs_no _ _ _ _ _ _ h (by cases pol <;> simpa using hl)]
    have := key _ i ((i + j) / 2) (s.ask (q ((i + j) / 2)).1 (q ((i + j) / 2)).2) rfl
    simpa using this
theorem shUp_len (e k : Nat) (s : St α) (h : k < e) : s.log.length + 1 ≤ (shUp e k s).log.length := by
  rw [shUp_go _ _ _ h]
  have := (shUp_run 0 (e + 1) e _ (k + 1) (s.swap k (k + 1)) rfl (by omega) (by omega)).len
  simpa using this
theorem shDn_len (i k : Nat) (s : St α) (h : i < k + 1) : s.log.length + 1 ≤ (shDn i (k + 1) s).log.length := by
  rw [shDn_go _ _ _ h]
  have := (shDn_run 0 (k + 1) i (by omega) k (s.swap (k + 1) k) (by omega)).len
  simpa using this
theorem insIn_len_no (a j : Nat) (s : St α) (h : a < j + 1) : s.log.length + 1 ≤ (insIn lt a (j + 1) s).log.length := by
  cases hl : lt s.d[j + 1]! s.d[j]! with
  | true =>
    rw [insIn_go _ _ _ _ h hl]
    have := (insIn_run lt a (j + 1) j ((s.ask (j + 1) j).swap (j + 1) j) (by omega)).len
    simp at this; omega
  | false => rw [insIn_no _ _ _ _ h hl]; simp
theorem insIn_len_go (a j : Nat) (s : St α) (h : a < j + 1) (hl : lt s.d[j + 1]! s.d[j]! = true) : s.log.length + 2 ≤ (insIn lt a (j + 1) s).log.length := by
  rw [insIn_go _ _ _ _ h hl]
  have := (insIn_run lt a (j + 1) j ((s.ask (j + 1) j).swap (j + 1) j) (by omega)).len
  simp at this; omega
end Go.Proofs.Ytdpomoengbpcaaa
