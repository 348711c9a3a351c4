/- Plain laws of the stable sort: the result is sorted by every transitive relation that agrees with all answers; what is asked; no program in this text. -/
import Derived.Test.YtdpomoengbpcaaaLaws1
namespace Go.Proofs.Ytdpomoengbpcaaa
open Go.Sort
variable {α : Type} [Inhabited α] (lt : α → α → Bool) (R : α → α → Prop)

/-- R holds of every two places of [a, b) in their order. -/
def SortR (a b : Nat) (d : Array α) : Prop := ∀ p q, a ≤ p → p < q → q < b → R d[p]! d[q]!
/-- R agrees with all answers of the log. -/
def Tok (log : List (Ev α)) : Prop := ∀ i j x y, Ev.less i j x y ∈ log → (lt x y = true → R x y) ∧ (lt x y = false → R y x)

theorem Tok.of_run {a b : Nat} {s t : St α} (h : Tok lt R t.log) (r : Run a b s t) : Tok lt R s.log := fun i j x y hm => h i j x y (r.keeps hm)

/-! ### The insertion sort -/
/-- [a, i] is in order but for the place j; what lies at j comes before all that lies to its right. -/
structure InsR (a j i : Nat) (d : Array α) : Prop where
  rest : ∀ p q, a ≤ p → p < q → q ≤ i → p ≠ j → q ≠ j → R d[p]! d[q]!
  right : ∀ q, j < q → q ≤ i → R d[j]! d[q]!

variable {R} (tr : ∀ x y z, R x y → R y z → R x z)
include tr in
theorem InsR.stop {a j i : Nat} {d : Array α} (h : InsR R a j i d) (hs : j ≤ a ∨ R d[j - 1]! d[j]!) : SortR R a (i + 1) d := by
  intro p q hap hpq hqi
  by_cases hq : q = j
  · subst hq
    rcases hs with hs | hs
    · omega
    · by_cases hp : p = q - 1
      · subst hp; exact hs
      · exact tr _ _ _ (h.rest p (q - 1) hap (by omega) (by omega) (by omega) (by omega)) hs
  · by_cases hp : p = j
    · subst hp; exact h.right q hpq (by omega)
    · exact h.rest p q hap hpq (by omega) hp hq
theorem InsR.step {a j i : Nat} {d : Array α} (h : InsR R a (j + 1) i d) (hl : R d[j + 1]! d[j]!) (haj : a ≤ j) (hsz : j + 1 < d.size) : InsR R a j i (swp d (j + 1) j) := by
  have g := swp_get d hsz (show j < d.size by omega)
  constructor
  · intro p q hap hpq hqi hp hq
    rw [g, g]
    by_cases hq1 : q = j + 1
    · subst hq1
      simp only [hq, hp, if_false, if_true, show p ≠ j + 1 by omega]
      exact h.rest p j hap (by omega) (by omega) (by omega) (by omega)
    · by_cases hp1 : p = j + 1
      · subst hp1
        simp only [hq, hp, hq1, if_false, if_true]
        exact h.rest j q haj (by omega) hqi (by omega) hq1
      · simp only [hq, hp, hq1, hp1, if_false]
        exact h.rest p q hap hpq hqi hp1 hq1
  · intro q hjq hqi
    rw [g, g]
    by_cases hq1 : q = j + 1
    · subst hq1
      simpa [show j + 1 ≠ j by omega] using hl
    · simp only [if_true, show q ≠ j by omega, hq1, if_false]
      exact h.right q (by omega) hqi
include tr in
theorem insIn_sorted (a i : Nat) : ∀ (j : Nat) (s : St α), a ≤ j → j ≤ i → i < s.d.size → InsR R a j i s.d → Tok lt R (insIn lt a j s).log → SortR R a (i + 1) (insIn lt a j s).d
  | 0, s, _, _, _, hI, _ => by rw [insIn_stop _ _ _ _ (by omega)]; exact hI.stop tr (.inl (by omega))
  | j + 1, s, haj, hji, hsz, hI, hT => by
    rcases Nat.lt_or_ge a (j + 1) with h | h
    · cases hl : lt s.d[j + 1]! s.d[j]! with
      | true =>
        have hr : Run a (i + 1) s (insIn lt a (j + 1) s) := insIn_run lt a (i + 1) (j + 1) s (by omega)
        rw [insIn_go _ _ _ _ h hl] at hT ⊢
        have hin : Ev.less (j + 1) j s.d[j + 1]! s.d[j]! ∈ ((s.ask (j + 1) j).swap (j + 1) j).log := by simp
        have hR := (hT _ _ _ _ ((insIn_run lt a (i + 1) j _ (by omega)).keeps hin)).1 hl
        exact insIn_sorted a i j _ (by omega) (by omega) (by rw [St.swap_d, size_swp]; exact hsz) (hI.step hR (by omega) (by show j + 1 < s.d.size; omega)) hT
      | false =>
        rw [insIn_no _ _ _ _ h hl] at hT ⊢
        have hR := (hT (j + 1) j s.d[j + 1]! s.d[j]! (by simp)).2 hl
        exact hI.stop tr (.inr (by simpa using hR))
    · rw [insIn_stop _ _ _ _ h]; exact hI.stop tr (.inl h)
include tr in
theorem insOut_sorted (a b : Nat) : ∀ (n i : Nat) (s : St α), b - i = n → a < i → i ≤ b → b ≤ s.d.size → SortR R a i s.d → Tok lt R (insOut lt a b i s).log → SortR R a b (insOut lt a b i s).d
  | 0, i, s, hn, _, hib, _, hs, _ => by
    obtain rfl : i = b := by omega
    rw [insOut_stop _ _ _ _ _ (by omega)]; exact hs
  | n + 1, i, s, hn, hai, hib, hb, hs, hT => by
    have hlt : i < b := by omega
    rw [insOut_go _ _ _ _ _ hlt] at hT ⊢
    have hT1 : Tok lt R (insIn lt a i s).log := hT.of_run lt R (insOut_run lt a b n (i + 1) _ (by omega))
    have h1 := insIn_sorted lt tr a i i s (by omega) (Nat.le_refl _) (by omega) ⟨fun p q hap hpq hqi _ hq => hs p q hap hpq (by omega), fun q h1 h2 => by omega⟩ hT1
    exact insOut_sorted a b n (i + 1) _ (by omega) (by omega) (by omega) (by rw [(insIn_run lt a b i s hlt).size]; exact hb) h1 hT
include tr in
theorem insSort_sorted (a b : Nat) (s : St α) (hb : b ≤ s.d.size) (hT : Tok lt R (insSort lt a b s).log) : SortR R a b (insSort lt a b s).d := by
  by_cases h : a + 1 ≤ b
  · exact insOut_sorted lt tr a b _ (a + 1) s rfl (by omega) h hb (fun p q h1 h2 h3 => by omega) hT
  · exact fun p q h1 h2 h3 => by omega

/-! ### symMerge -/
include tr in
theorem symMerge_sorted : ∀ (n a m b : Nat) (s : St α), b - a = n → a < m → m < b → b ≤ s.d.size → SortR R a m s.d → SortR R m b s.d → Tok lt R (symMerge lt a m b s).log → SortR R a b (symMerge lt a m b s).d := by
  intro n
  induction n using Nat.strongRecOn with
  | ind n ih =>
    intro a m b s hn ham hmb hsz hA hB hT
    by_cases h1 : m - a = 1
    · rw [symMerge_first _ _ _ _ _ h1] at hT ⊢
      obtain ⟨r1, r2, r3, r4, r5, r6⟩ := bs_all lt (fun h => (h, a)) true a b _ m b s rfl (by omega) (fun h h1 h2 => ⟨by simp; omega, by simp; omega, by simp, by simp; omega⟩)
      generalize bs lt (fun h => (h, a)) true m b s = r at r1 r2 r3 r4 r5 r6 hT ⊢
      obtain ⟨k, s1⟩ := r
      simp only at r1 r2 r3 r4 r5 r6 hT ⊢
      have hT1 : Tok lt R s1.log := hT.of_run lt R (shUp_run a b (k - 1) _ a s1 rfl (Nat.le_refl _) (by omega))
      have below : ∀ p, m ≤ p → p < k → R s.d[p]! s.d[a]! := by
        intro p hp1 hp2
        rcases r5 with r5 | ⟨_, r5, r5'⟩
        · omega
        · have := (hT1 _ _ _ _ r5).1 r5'
          by_cases e : p = k - 1
          · subst e; exact this
          · exact tr _ _ _ (hB p (k - 1) hp1 (by omega) (by omega)) this
      have above : ∀ q, k ≤ q → q < b → R s.d[a]! s.d[q]! := by
        intro q hq1 hq2
        rcases r6 with r6 | ⟨_, r6, r6'⟩
        · omega
        · have := (hT1 _ _ _ _ r6).2 r6'
          by_cases e : q = k
          · subst e; exact this
          · exact tr _ _ _ this (hB k q r1 (by omega) hq2)
      have g := shUp_get (k - 1) _ a s1 rfl (by omega) (by rw [r3]; omega)
      intro p q hp hpq hq
      rw [g, g, r3]
      by_cases c1 : q < k - 1
      · rw [if_pos (by omega), if_pos (by omega)]; exact hB _ _ (by omega) (by omega) (by omega)
      · by_cases c2 : q = k - 1
        · rw [if_pos (by omega), if_neg (by omega), if_pos c2]; exact below _ (by omega) (by omega)
        · rw [show (if a ≤ q ∧ q < k - 1 then q + 1 else if q = k - 1 then a else q) = q from by rw [if_neg (by omega), if_neg c2]]
          by_cases c3 : p < k - 1
          · rw [if_pos (by omega)]; exact hB _ _ (by omega) (by omega) hq
          · by_cases c4 : p = k - 1
            · rw [if_neg (by omega), if_pos c4]; exact above _ (by omega) hq
            · rw [if_neg (by omega), if_neg c4]; exact hB _ _ (by omega) hpq hq
    · by_cases h2 : b - m = 1
      · rw [symMerge_last _ _ _ _ _ h1 h2] at hT ⊢
        obtain ⟨r1, r2, r3, r4, r5, r6⟩ := bs_all lt (fun h => (m, h)) false a b _ a m s rfl (by omega) (fun h h1 h2 => ⟨by simp; omega, by simp; omega, by simp; omega, by simp; omega⟩)
        generalize bs lt (fun h => (m, h)) false a m s = r at r1 r2 r3 r4 r5 r6 hT ⊢
        obtain ⟨k, s1⟩ := r
        simp only at r1 r2 r3 r4 r5 r6 hT ⊢
        have hT1 : Tok lt R s1.log := hT.of_run lt R (shDn_run a b k r1 m s1 hmb)
        have below : ∀ p, a ≤ p → p < k → R s.d[p]! s.d[m]! := by
          intro p hp1 hp2
          rcases r5 with r5 | ⟨_, r5, r5'⟩
          · omega
          · have := (hT1 _ _ _ _ r5).2 r5'
            by_cases e : p = k - 1
            · subst e; exact this
            · exact tr _ _ _ (hA p (k - 1) hp1 (by omega) (by omega)) this
        have above : ∀ q, k ≤ q → q < m → R s.d[m]! s.d[q]! := by
          intro q hq1 hq2
          rcases r6 with r6 | ⟨_, r6, r6'⟩
          · omega
          · have := (hT1 _ _ _ _ r6).1 (by simpa using r6')
            by_cases e : q = k
            · subst e; exact this
            · exact tr _ _ _ this (hA k q r1 (by omega) hq2)
        have g := shDn_get k m s1 r2 (by rw [r3]; omega)
        intro p q hp hpq hq
        rw [g, g, r3]
        by_cases c1 : q < k
        · rw [if_neg (by omega), if_neg (by omega), if_neg (by omega), if_neg (by omega)]; exact hA _ _ hp hpq (by omega)
        · by_cases c2 : q = k
          · rw [if_neg (by omega), if_neg (by omega), if_pos c2]; exact below _ hp (by omega)
          · rw [show (if q = k then m else if k < q ∧ q ≤ m then q - 1 else q) = q - 1 from by rw [if_neg c2, if_pos (by omega)]]
            by_cases c3 : p < k
            · rw [if_neg (by omega), if_neg (by omega)]; exact hA _ _ hp (by omega) (by omega)
            · by_cases c4 : p = k
              · rw [if_pos c4]; exact above _ (by omega) (by omega)
              · rw [if_neg c4, if_pos (by omega)]; exact hA _ _ (by omega) (by omega) (by omega)
      · rw [symMerge_else _ _ _ _ _ h1 h2] at hT ⊢
        obtain ⟨e1, e2, e3, e4, e5, e6, e7⟩ := lo_hi a m b (by omega) (by omega)
        obtain ⟨r1, r2, r3, r4, r5, r6⟩ := bsC_all lt a m b s (by omega) (by omega)
        generalize bsC lt a m b s = r at r1 r2 r3 r4 r5 r6 hT ⊢
        obtain ⟨k, s1⟩ := r
        simp only at r1 r2 r3 r4 r5 r6 hT ⊢
        generalize hmid : (a + b) / 2 = mid at *
        have hm1 : a < mid := by omega
        have hm2 : mid < b := by omega
        -- the runs
        have t1 : Run a b s1 (turn a m b (k, s1)) := turn_run a m b k s1 (by omega) (by omega)
        have g := turn_get a m b k s1 (by omega) (by omega) (by rw [r3]; omega)
        have sz2 : (turn a m b (k, s1)).d.size = s.d.size := by rw [t1.size, r3]
        generalize turn a m b (k, s1) = s2 at t1 g sz2 hT ⊢
        have t2 : Run a mid s2 (half1 lt a b k s2) := by
          unfold half1; rw [hmid]; split
          · exact symMerge_run lt _ a k mid s2 rfl (by omega) (by omega)
          · exact .refl _
        have t3 : Run mid b (half1 lt a b k s2) (half2 lt a m b k (half1 lt a b k s2)) := by
          unfold half2; rw [hmid]; split
          · exact symMerge_run lt _ mid _ b _ rfl (by omega) (by omega)
          · exact .refl _
        have hT3 : Tok lt R (half1 lt a b k s2).log := hT.of_run lt R t3
        have hT2 : Tok lt R s2.log := hT3.of_run lt R t2
        have hT1 : Tok lt R s1.log := hT2.of_run lt R t1
        -- what the search told
        have cr1 : ∀ x y, a ≤ x → x < k → mid + m - k ≤ y → y < b → R s.d[x]! s.d[y]! := by
          intro x y x1 x2 y1 y2
          rcases r5 with r5 | ⟨_, r5, r5'⟩
          · omega
          · have h := (hT1 _ _ _ _ r5).2 r5'
            have hx : x = k - 1 ∨ R s.d[x]! s.d[k - 1]! := by
              by_cases e : x = k - 1
              · exact .inl e
              · exact .inr (hA _ _ x1 (by omega) (by omega))
            have hy : y = mid + m - k ∨ R s.d[mid + m - k]! s.d[y]! := by
              by_cases e : y = mid + m - k
              · exact .inl e
              · exact .inr (hB _ _ (by omega) (by omega) y2)
            rcases hx with hx | hx <;> rcases hy with hy | hy
            · rw [hx, hy]; exact h
            · rw [hx]; exact tr _ _ _ h hy
            · rw [hy]; exact tr _ _ _ hx h
            · exact tr _ _ _ (tr _ _ _ hx h) hy
        have cr2 : ∀ x y, m ≤ y → y < mid + m - k → k ≤ x → x < m → R s.d[y]! s.d[x]! := by
          intro x y y1 y2 x1 x2
          rcases r6 with r6 | ⟨_, r6, r6'⟩
          · omega
          · have h := (hT1 _ _ _ _ r6).1 r6'
            have hx : x = k ∨ R s.d[k]! s.d[x]! := by
              by_cases e : x = k
              · exact .inl e
              · exact .inr (hA _ _ (by omega) (by omega) x2)
            have hy : y = mid + m - k - 1 ∨ R s.d[y]! s.d[mid + m - k - 1]! := by
              by_cases e : y = mid + m - k - 1
              · exact .inl e
              · exact .inr (hB _ _ y1 (by omega) (by omega))
            rcases hx with hx | hx <;> rcases hy with hy | hy
            · rw [hx, hy]; exact h
            · rw [hx]; exact tr _ _ _ hy h
            · rw [hy]; exact tr _ _ _ h hx
            · exact tr _ _ _ (tr _ _ _ hy h) hx
        -- the four pieces behind the rotation
        have gi : ∀ x, s2.d[x]! = s.d[turnIx a m b k x]! := fun x => by rw [g, r3]
        have q1 : ∀ x, x < k → s2.d[x]! = s.d[x]! := fun x hx => by
          rw [gi]; unfold turnIx; rw [hmid, if_neg (by omega), if_neg (by omega)]
        have q2 : ∀ x, k ≤ x → x < mid → s2.d[x]! = s.d[x + (m - k)]! := fun x hx hx2 => by
          rw [gi]; unfold turnIx; rw [hmid, if_pos (by omega)]
        have q3 : ∀ x, mid ≤ x → x < mid + m - k → s2.d[x]! = s.d[x + k - mid]! := fun x hx hx2 => by
          rw [gi]; unfold turnIx; rw [hmid, if_neg (by omega), if_pos (by omega)]
        have q4 : ∀ x, mid + m - k ≤ x → s2.d[x]! = s.d[x]! := fun x hx => by
          rw [gi]; unfold turnIx; rw [hmid, if_neg (by omega), if_neg (by omega)]
        have s1A : SortR R a k s2.d := fun p q hp hpq hq => by rw [q1 p (by omega), q1 q hq]; exact hA _ _ hp hpq (by omega)
        have s1B : SortR R k mid s2.d := fun p q hp hpq hq => by rw [q2 p hp (by omega), q2 q (by omega) hq]; exact hB _ _ (by omega) (by omega) (by omega)
        have s2A : SortR R mid (mid + m - k) s2.d := fun p q hp hpq hq => by rw [q3 p hp (by omega), q3 q (by omega) hq]; exact hA _ _ (by omega) (by omega) (by omega)
        have s2B : SortR R (mid + m - k) b s2.d := fun p q hp hpq hq => by rw [q4 p hp, q4 q (by omega)]; exact hB _ _ (by omega) (by omega) hq
        have cross : ∀ x y, a ≤ x → x < mid → mid ≤ y → y < b → R s2.d[x]! s2.d[y]! := by
          intro x y x1 x2 y1 y2
          by_cases cx : x < k
          · by_cases cy : y < mid + m - k
            · rw [q1 x cx, q3 y y1 cy]; exact hA _ _ x1 (by omega) (by omega)
            · rw [q1 x cx, q4 y (by omega)]; exact cr1 _ _ x1 cx (by omega) y2
          · by_cases cy : y < mid + m - k
            · rw [q2 x (by omega) x2, q3 y y1 cy]; exact cr2 _ _ (by omega) (by omega) (by omega) (by omega)
            · rw [q2 x (by omega) x2, q4 y (by omega)]; exact hB _ _ (by omega) (by omega) y2
        -- the left half
        have L : SortR R a mid (half1 lt a b k s2).d := by
          have hT3' := hT3
          unfold half1 at hT3' ⊢
          rw [hmid] at hT3' ⊢
          split
          · rename_i hc
            rw [if_pos hc] at hT3'
            exact ih _ (by omega) a k mid s2 rfl (by omega) (by omega) (by omega) s1A s1B hT3'
          · rename_i hc
            intro p q hp hpq hq
            by_cases ck : k ≤ a
            · exact s1B p q (by omega) hpq hq
            · exact s1A p q hp hpq (by omega)
        have pL := t2.perm (by rw [sz2]; omega)
        have szL : (half1 lt a b k s2).d.size = s.d.size := by rw [t2.size, sz2]
        have crossL : ∀ x y, a ≤ x → x < mid → mid ≤ y → y < b → R (half1 lt a b k s2).d[x]! (half1 lt a b k s2).d[y]! := by
          intro x y x1 x2 y1 y2
          rw [pL.2.1 y (.inr y1)]
          exact permIn_all s2.d _ a mid (fun v => R v s2.d[y]!) (by rw [sz2]; omega) pL (fun i i1 i2 => cross i y i1 i2 y1 y2) x x1 x2
        have keepR : ∀ y, mid ≤ y → (half1 lt a b k s2).d[y]! = s2.d[y]! := fun y hy => pL.2.1 y (.inr hy)
        generalize half1 lt a b k s2 = s3 at t3 hT L szL crossL keepR ⊢
        have s3A : SortR R mid (mid + m - k) s3.d := fun p q hp hpq hq => by rw [keepR p hp, keepR q (by omega)]; exact s2A p q hp hpq hq
        have s3B : SortR R (mid + m - k) b s3.d := fun p q hp hpq hq => by rw [keepR p (by omega), keepR q (by omega)]; exact s2B p q hp hpq hq
        -- the right half
        have Rt : SortR R mid b (half2 lt a m b k s3).d := by
          unfold half2 at hT ⊢
          rw [hmid] at hT ⊢
          split
          · rename_i hc
            rw [if_pos hc] at hT
            exact ih _ (by omega) mid _ b s3 rfl (by omega) (by omega) (by omega) s3A s3B hT
          · rename_i hc
            intro p q hp hpq hq
            by_cases ck : mid + m - k ≤ mid
            · exact s3B p q (by omega) hpq hq
            · exact s3A p q hp hpq (by omega)
        have pR := t3.perm (by rw [szL]; omega)
        intro p q hp hpq hq
        by_cases c1 : q < mid
        · rw [pR.2.1 p (.inl (by omega)), pR.2.1 q (.inl c1)]; exact L p q hp hpq c1
        · by_cases c2 : mid ≤ p
          · exact Rt p q c2 hpq hq
          · rw [pR.2.1 p (.inl (by omega))]
            exact permIn_all s3.d _ mid b (fun v => R s3.d[p]! v) (by rw [szL]; omega) pR (fun i i1 i2 => crossL p i hp (by omega) i1 i2) q (by omega) hq

/-! ### The whole -/
/-- Each block of z entries is in order. -/
def Blocks (R : α → α → Prop) (n z : Nat) (d : Array α) : Prop := ∀ c, SortR R (c * z) (min ((c + 1) * z) n) d

include tr in
theorem insBlocks_sorted (n : Nat) : ∀ (k c : Nat) (s : St α), n + 1 - (c * 20 + 20) = k → c * 20 ≤ n → n ≤ s.d.size → (∀ e, e < c → SortR R (e * 20) ((e + 1) * 20) s.d) → Tok lt R (insBlocks lt n (c * 20) (c * 20 + 20) s).log →
    Blocks R n 20 (insBlocks lt n (c * 20) (c * 20 + 20) s).d := by
  intro k
  induction k using Nat.strongRecOn with
  | ind k ih =>
    intro c s hk hc hn hs hT
    by_cases h : c * 20 + 20 ≤ n
    · have e : c * 20 + 20 = (c + 1) * 20 := by omega
      rw [insBlocks_go _ _ _ _ _ h] at hT ⊢
      have ri := insSort_run lt (c * 20) (c * 20 + 20) s
      have hT1 : Tok lt R (insSort lt (c * 20) (c * 20 + 20) s).log := hT.of_run lt R (insBlocks_run lt n _ _ _ _ rfl)
      have hS := insSort_sorted lt tr (c * 20) (c * 20 + 20) s (by omega) hT1
      have hP := ri.perm (by omega)
      rw [e] at hT ⊢
      rw [← e]
      rw [← e] at hT
      have := ih (n + 1 - ((c + 1) * 20 + 20)) (by omega) (c + 1) (insSort lt (c * 20) (c * 20 + 20) s) rfl (by omega) (by rw [ri.size]; exact hn) (by
        intro e' he'
        by_cases hee : e' = c
        · subst hee; rw [← e]; exact hS
        · intro p q hp hpq hq
          have b1 : (e' + 1) * 20 ≤ c * 20 := Nat.mul_le_mul_right _ (by omega)
          rw [hP.2.1 p (.inl (by omega)), hP.2.1 q (.inl (by omega))]
          exact hs e' (by omega) p q hp hpq hq)
      rw [← e] at this
      exact this hT
    · rw [insBlocks_stop _ _ _ _ _ h] at hT ⊢
      have ri := insSort_run lt (c * 20) n s
      have hS := insSort_sorted lt tr (c * 20) n s hn hT
      have hP := ri.perm hn
      intro e' p q hp hpq hq
      rcases Nat.lt_trichotomy e' c with he | he | he
      · have b1 : (e' + 1) * 20 ≤ c * 20 := Nat.mul_le_mul_right _ (by omega)
        rw [hP.2.1 p (.inl (by omega)), hP.2.1 q (.inl (by omega))]
        exact hs e' he p q hp hpq (by omega)
      · subst he; exact hS p q hp hpq (by omega)
      · have b1 : (c + 1) * 20 ≤ e' * 20 := Nat.mul_le_mul_right _ (by omega)
        omega

include tr in
theorem mergePass_sorted (n z : Nat) (hz : 0 < z) : ∀ (k c : Nat) (s : St α), n + 1 - (c * (2 * z) + 2 * z) = k → c * (2 * z) ≤ n → n ≤ s.d.size → (∀ e, e < c → SortR R (e * (2 * z)) ((e + 1) * (2 * z)) s.d) →
    (∀ e, 2 * c ≤ e → SortR R (e * z) (min ((e + 1) * z) n) s.d) → Tok lt R (mergePass lt n z (c * (2 * z)) (c * (2 * z) + 2 * z) s).log →
    Blocks R n (2 * z) (mergePass lt n z (c * (2 * z)) (c * (2 * z) + 2 * z) s).d := by
  intro k
  induction k using Nat.strongRecOn with
  | ind k ih =>
    intro c s hk hc hn hs hr hT
    have e : c * (2 * z) + 2 * z = (c + 1) * (2 * z) := by rw [Nat.add_mul, Nat.one_mul]
    have e0 : (2 * c) * z = c * (2 * z) := by rw [Nat.mul_comm 2 c, Nat.mul_assoc]
    have e1 : (2 * c + 1) * z = c * (2 * z) + z := by rw [Nat.add_mul, e0, Nat.one_mul]
    have e2 : (2 * c + 1 + 1) * z = c * (2 * z) + 2 * z := by rw [Nat.add_mul, e1, Nat.one_mul]; omega
    have A := hr (2 * c) (Nat.le_refl _)
    have B := hr (2 * c + 1) (by omega)
    rw [e0, e1] at A
    rw [e1, e2] at B
    by_cases h : c * (2 * z) + 2 * z ≤ n
    · rw [mergePass_go _ _ _ _ _ _ hz h] at hT ⊢
      have ri := symMerge_run lt _ (c * (2 * z)) (c * (2 * z) + z) (c * (2 * z) + 2 * z) s rfl (by omega) (by omega)
      have hT1 : Tok lt R (symMerge lt (c * (2 * z)) (c * (2 * z) + z) (c * (2 * z) + 2 * z) s).log := hT.of_run lt R (mergePass_run lt n z hz _ _ _ _ rfl rfl)
      have hS := symMerge_sorted lt tr _ _ _ _ s rfl (by omega) (by omega) (by omega) (fun p q hp hpq hq => A p q hp hpq (by omega)) (fun p q hp hpq hq => B p q hp hpq (by omega)) hT1
      have hP := ri.perm (by omega)
      have sz := ri.size
      generalize symMerge lt (c * (2 * z)) (c * (2 * z) + z) (c * (2 * z) + 2 * z) s = s1 at hT hS hP sz ⊢
      have := ih (n + 1 - ((c + 1) * (2 * z) + 2 * z)) (by omega) (c + 1) s1 rfl (by omega) (by rw [sz]; exact hn) (by
        intro e' he'
        by_cases hee : e' = c
        · subst hee; rw [← e]; exact hS
        · intro p q hp hpq hq
          have b1 : (e' + 1) * (2 * z) ≤ c * (2 * z) := Nat.mul_le_mul_right _ (by omega)
          rw [hP.2.1 p (.inl (by omega)), hP.2.1 q (.inl (by omega))]
          exact hs e' (by omega) p q hp hpq hq) (by
        intro e' he' p q hp hpq hq
        have b1 : (2 * (c + 1)) * z ≤ e' * z := Nat.mul_le_mul_right _ he'
        have b2 : (2 * (c + 1)) * z = c * (2 * z) + 2 * z := by rw [← e2, show 2 * (c + 1) = 2 * c + 1 + 1 from by omega]
        rw [hP.2.1 p (.inr (by omega)), hP.2.1 q (.inr (by omega))]
        exact hr e' (by omega) p q hp hpq hq)
      rw [← e] at this
      exact this hT
    · have fin : ∀ s1 : St α, SortR R (c * (2 * z)) n s1.d → PermIn (c * (2 * z)) n s.d s1.d → Blocks R n (2 * z) s1.d := by
        intro s1 hS hP e' p q hp hpq hq
        rcases Nat.lt_trichotomy e' c with he | he | he
        · have b1 : (e' + 1) * (2 * z) ≤ c * (2 * z) := Nat.mul_le_mul_right _ (by omega)
          rw [hP.2.1 p (.inl (by omega)), hP.2.1 q (.inl (by omega))]
          exact hs e' he p q hp hpq (by omega)
        · subst he; exact hS p q hp hpq (by omega)
        · have b1 : (c + 1) * (2 * z) ≤ e' * (2 * z) := Nat.mul_le_mul_right _ (by omega)
          omega
      by_cases h2 : c * (2 * z) + z < n
      · rw [mergePass_last _ _ _ _ _ _ h h2] at hT ⊢
        have ri := symMerge_run lt _ (c * (2 * z)) (c * (2 * z) + z) n s rfl (by omega) h2
        exact fin _ (symMerge_sorted lt tr _ _ _ _ s rfl (by omega) (by omega) hn (fun p q hp hpq hq => A p q hp hpq (by omega)) (fun p q hp hpq hq => B p q hp hpq (by omega)) hT) (ri.perm hn)
      · rw [mergePass_stop _ _ _ _ _ _ h h2] at hT ⊢
        exact fin _ (fun p q hp hpq hq => A p q hp hpq (by omega)) (permIn_refl _ _ _)

include tr in
theorem passes_sorted (n : Nat) : ∀ (k z : Nat) (s : St α), n - z = k → 0 < z → n ≤ s.d.size → Blocks R n z s.d → Tok lt R (passes lt n z s).log → SortR R 0 n (passes lt n z s).d := by
  intro k
  induction k using Nat.strongRecOn with
  | ind k ih =>
    intro z s hk hz hn hs hT
    by_cases h : z < n
    · rw [passes_go _ _ _ _ hz h] at hT ⊢
      have ri := mergePass_run lt n z hz _ 0 (2 * z) s rfl (by omega)
      have hT1 : Tok lt R (mergePass lt n z 0 (2 * z) s).log := hT.of_run lt R (passes_run lt n _ _ _ rfl (by omega))
      have hS := mergePass_sorted lt tr n z hz _ 0 s rfl (by omega) hn (fun e he => by omega) (fun e _ => hs e) (by simpa using hT1)
      rw [Nat.zero_mul, Nat.zero_add] at hS
      exact ih _ (by omega) (z * 2) _ rfl (by omega) (by rw [ri.size]; exact hn) (by rw [Nat.mul_comm]; exact hS) hT
    · rw [passes_stop _ _ _ _ h] at hT ⊢
      have := hs 0
      rw [Nat.zero_mul, Nat.zero_add, Nat.one_mul] at this
      exact fun p q hp hpq hq => this p q hp hpq (by omega)

include tr in
/-- THE SORT's ORDER: whatever transitive relation agrees with all that 'less' answered holds of every two places of the result. -/
theorem stable_sorted (n : Nat) (s : St α) (hn : n ≤ s.d.size) (hT : Tok lt R (stable lt n s).log) : SortR R 0 n (stable lt n s).d := by
  unfold stable at hT ⊢
  have hT1 : Tok lt R (insBlocks lt n 0 20 s).log := hT.of_run lt R (passes_run lt n _ _ _ rfl (by omega))
  have hS := insBlocks_sorted lt tr n _ 0 s rfl (by omega) hn (fun e he => by omega) (by simpa using hT1)
  rw [Nat.zero_mul, Nat.zero_add] at hS
  exact passes_sorted lt tr n _ 20 _ rfl (by omega) (by rw [(insBlocks_run lt n _ 0 20 s rfl).size]; exact hn) hS hT
end Go.Proofs.Ytdpomoengbpcaaa
