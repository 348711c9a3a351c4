/- Plain laws of the stable sort: what it does is a run of askings and exchanges between two bounds; where its searches and rotations end; no program in this text. -/
import Derived.Test.YtdpomoengbpcaaaAlg
namespace Go.Proofs.Ytdpomoengbpcaaa
open Go.Sort
variable {α : Type} [Inhabited α]

/-- s' comes from s by askings and exchanges of places from a to b - 1. -/
inductive Run (a b : Nat) : St α → St α → Prop
  | refl (s : St α) : Run a b s s
  | ask (s s' : St α) (i j : Nat) (h1 : a ≤ i) (h2 : i < b) (h3 : a ≤ j) (h4 : j < b) (h : Run a b (s.ask i j) s') : Run a b s s'
  | swap (s s' : St α) (i j : Nat) (h1 : a ≤ i) (h2 : i < b) (h3 : a ≤ j) (h4 : j < b) (h : Run a b (s.swap i j) s') : Run a b s s'

theorem Run.trans {a b : Nat} {s t u : St α} (h : Run a b s t) (k : Run a b t u) : Run a b s u := by
  induction h with
  | refl => exact k
  | ask s s' i j h1 h2 h3 h4 _ ih => exact .ask s u i j h1 h2 h3 h4 (ih k)
  | swap s s' i j h1 h2 h3 h4 _ ih => exact .swap s u i j h1 h2 h3 h4 (ih k)
theorem Run.ask1 {a b i j : Nat} (s : St α) (h1 : a ≤ i) (h2 : i < b) (h3 : a ≤ j) (h4 : j < b) : Run a b s (s.ask i j) := .ask s _ i j h1 h2 h3 h4 (.refl _)
theorem Run.swap1 {a b i j : Nat} (s : St α) (h1 : a ≤ i) (h2 : i < b) (h3 : a ≤ j) (h4 : j < b) : Run a b s (s.swap i j) := .swap s _ i j h1 h2 h3 h4 (.refl _)
theorem Run.mono {a b a' b' : Nat} {s t : St α} (h : Run a b s t) (ha : a' ≤ a) (hb : b ≤ b') : Run a' b' s t := by
  induction h with
  | refl => exact .refl _
  | ask s s' i j h1 h2 h3 h4 _ ih => exact .ask s s' i j (by omega) (by omega) (by omega) (by omega) ih
  | swap s s' i j h1 h2 h3 h4 _ ih => exact .swap s s' i j (by omega) (by omega) (by omega) (by omega) ih
theorem Run.size {a b : Nat} {s t : St α} (h : Run a b s t) : t.d.size = s.d.size := by
  induction h with
  | refl => rfl
  | ask s s' i j h1 h2 h3 h4 _ ih => simpa using ih
  | swap s s' i j h1 h2 h3 h4 _ ih => rw [ih, St.swap_d, size_swp]
theorem Run.perm {a b : Nat} {s t : St α} (h : Run a b s t) (hb : b ≤ s.d.size) : PermIn a b s.d t.d := by
  induction h with
  | refl => exact permIn_refl _ _ _
  | ask s s' i j h1 h2 h3 h4 _ ih => exact ih hb
  | swap s s' i j h1 h2 h3 h4 _ ih =>
    exact permIn_trans _ _ _ _ _ (swp_permIn s.d a b i j h1 h2 h3 h4 hb) (ih (by rw [St.swap_d, size_swp]; exact hb))
theorem Run.log {a b : Nat} {s t : St α} (h : Run a b s t) : ∃ evs, t.log = s.log ++ evs := by
  induction h with
  | refl => exact ⟨[], by simp⟩
  | ask s s' i j h1 h2 h3 h4 _ ih => obtain ⟨e, he⟩ := ih; exact ⟨_, by rw [he, St.ask_log, List.append_assoc]⟩
  | swap s s' i j h1 h2 h3 h4 _ ih => obtain ⟨e, he⟩ := ih; exact ⟨_, by rw [he, St.swap_log, List.append_assoc]⟩
theorem Run.keeps {a b : Nat} {s t : St α} (h : Run a b s t) {e : Ev α} (he : e ∈ s.log) : e ∈ t.log := by
  obtain ⟨evs, hl⟩ := h.log
  rw [hl]; exact List.mem_append_left _ he

variable (lt : α → α → Bool)

/-! ### Each function is such a run -/
theorem insIn_run (a b : Nat) : ∀ (j : Nat) (s : St α), j < b → Run a b s (insIn lt a j s)
  | 0, s, _ => by rw [insIn_stop _ _ _ _ (by omega)]; exact .refl _
  | j + 1, s, hj => by
    rcases Nat.lt_or_ge a (j + 1) with h | h
    · cases hl : lt s.d[j + 1]! s.d[j]! with
      | true =>
        rw [insIn_go _ _ _ _ h hl]
        exact ((Run.ask1 s (by omega) hj (by omega) (by omega)).trans (Run.swap1 _ (by omega) hj (by omega) (by omega))).trans (insIn_run a b j _ (by omega))
      | false => rw [insIn_no _ _ _ _ h hl]; exact Run.ask1 s (by omega) hj (by omega) (by omega)
    · rw [insIn_stop _ _ _ _ h]; exact .refl _
theorem insOut_run (a b : Nat) : ∀ (n i : Nat) (s : St α), b - i = n → Run a b s (insOut lt a b i s)
  | 0, i, s, hn => by rw [insOut_stop _ _ _ _ _ (by omega)]; exact .refl _
  | n + 1, i, s, hn => by
    rw [insOut_go _ _ _ _ _ (by omega)]
    exact (insIn_run lt a b i s (by omega)).trans (insOut_run a b n (i + 1) _ (by omega))
theorem insSort_run (a b : Nat) (s : St α) : Run a b s (insSort lt a b s) := insOut_run lt a b _ _ s rfl

/-- Where the search ends, and what it was told beside that place. -/
theorem bs_all (q : Nat → Nat × Nat) (pol : Bool) (a b : Nat) : ∀ (n i j : Nat) (s : St α), j - i = n → i ≤ j →
    (∀ h, i ≤ h → h < j → a ≤ (q h).1 ∧ (q h).1 < b ∧ a ≤ (q h).2 ∧ (q h).2 < b) →
    i ≤ (bs lt q pol i j s).1 ∧ (bs lt q pol i j s).1 ≤ j ∧ (bs lt q pol i j s).2.d = s.d ∧ Run a b s (bs lt q pol i j s).2 ∧
    ((bs lt q pol i j s).1 = i ∨ (i < (bs lt q pol i j s).1 ∧ Ev.less (q ((bs lt q pol i j s).1 - 1)).1 (q ((bs lt q pol i j s).1 - 1)).2 s.d[(q ((bs lt q pol i j s).1 - 1)).1]! s.d[(q ((bs lt q pol i j s).1 - 1)).2]! ∈ (bs lt q pol i j s).2.log ∧
      lt s.d[(q ((bs lt q pol i j s).1 - 1)).1]! s.d[(q ((bs lt q pol i j s).1 - 1)).2]! = pol)) ∧
    ((bs lt q pol i j s).1 = j ∨ ((bs lt q pol i j s).1 < j ∧ Ev.less (q (bs lt q pol i j s).1).1 (q (bs lt q pol i j s).1).2 s.d[(q (bs lt q pol i j s).1).1]! s.d[(q (bs lt q pol i j s).1).2]! ∈ (bs lt q pol i j s).2.log ∧
      lt s.d[(q (bs lt q pol i j s).1).1]! s.d[(q (bs lt q pol i j s).1).2]! = !pol)) := by
  intro n
  induction n using Nat.strongRecOn with
  | ind n ih =>
    intro i j s hn hij hq
    by_cases h : i < j
    · have hh := hq ((i + j) / 2) (by omega) (by omega)
      have hrun : Run a b s (s.ask (q ((i + j) / 2)).1 (q ((i + j) / 2)).2) := Run.ask1 s hh.1 hh.2.1 hh.2.2.1 hh.2.2.2
      have hin : Ev.less (q ((i + j) / 2)).1 (q ((i + j) / 2)).2 s.d[(q ((i + j) / 2)).1]! s.d[(q ((i + j) / 2)).2]! ∈ (s.ask (q ((i + j) / 2)).1 (q ((i + j) / 2)).2).log := by simp
      by_cases hl : lt s.d[(q ((i + j) / 2)).1]! s.d[(q ((i + j) / 2)).2]! = pol
      · rw [bs_yes _ _ _ _ _ _ h hl]
        obtain ⟨r1, r2, r3, r4, r5, r6⟩ := ih (j - ((i + j) / 2 + 1)) (by omega) ((i + j) / 2 + 1) j (s.ask (q ((i + j) / 2)).1 (q ((i + j) / 2)).2) rfl (by omega) (fun h h1 h2 => hq h (by omega) h2)
        rw [St.ask_d] at r3 r5 r6
        refine ⟨by omega, r2, r3, hrun.trans r4, .inr ?_, r6⟩
        rcases r5 with r5 | r5
        · rw [r5, Nat.add_sub_cancel]
          exact ⟨by omega, r4.keeps hin, hl⟩
        · exact ⟨by omega, r5.2⟩
      · have hl' : lt s.d[(q ((i + j) / 2)).1]! s.d[(q ((i + j) / 2)).2]! = !pol := by
          cases pol <;> simpa using hl
        rw [bs_no _ _ _ _ _ _ h hl']
        obtain ⟨r1, r2, r3, r4, r5, r6⟩ := ih ((i + j) / 2 - i) (by omega) i ((i + j) / 2) (s.ask (q ((i + j) / 2)).1 (q ((i + j) / 2)).2) rfl (by omega) (fun h h1 h2 => hq h h1 (by omega))
        rw [St.ask_d] at r3 r5 r6
        refine ⟨r1, by omega, r3, hrun.trans r4, r5, .inr ?_⟩
        rcases r6 with r6 | r6
        · rw [r6]
          exact ⟨by omega, r4.keeps hin, hl'⟩
        · exact ⟨by omega, r6.2⟩
    · rw [bs_stop _ _ _ _ _ _ h]
      exact ⟨Nat.le_refl _, hij, rfl, .refl _, .inl rfl, .inl (by simp; omega)⟩

/-- What the search asks. -/
theorem bs_asks (q : Nat → Nat × Nat) (pol : Bool) : ∀ (n i j : Nat) (s : St α), j - i = n → ∀ e ∈ (bs lt q pol i j s).2.log, e ∈ s.log ∨ ∃ h, i ≤ h ∧ h < j ∧ e = Ev.less (q h).1 (q h).2 s.d[(q h).1]! s.d[(q h).2]! := by
  intro n
  induction n using Nat.strongRecOn with
  | ind n ih =>
    intro i j s hn e he
    by_cases h : i < j
    · by_cases hl : lt s.d[(q ((i + j) / 2)).1]! s.d[(q ((i + j) / 2)).2]! = pol
      · rw [bs_yes _ _ _ _ _ _ h hl] at he
        rcases ih _ (by omega) _ _ _ rfl e he with h1 | ⟨x, h1, h2, h3⟩
        · simp only [St.ask_log, List.mem_append, List.mem_singleton] at h1
          rcases h1 with h1 | h1
          · exact .inl h1
          · exact .inr ⟨_, by omega, by omega, h1⟩
        · exact .inr ⟨x, by omega, h2, h3⟩
      · rw [bs_no _ _ _ _ _ _ h (by cases pol <;> simpa using hl)] at he
        rcases ih _ (by omega) _ _ _ rfl e he with h1 | ⟨x, h1, h2, h3⟩
        · simp only [St.ask_log, List.mem_append, List.mem_singleton] at h1
          rcases h1 with h1 | h1
          · exact .inl h1
          · exact .inr ⟨_, by omega, by omega, h1⟩
        · exact .inr ⟨x, h1, by omega, h3⟩
    · rw [bs_stop _ _ _ _ _ _ h] at he
      exact .inl he

omit lt in
theorem shUp_run (a b e : Nat) : ∀ (n k : Nat) (s : St α), e - k = n → a ≤ k → e < b → Run a b s (shUp e k s)
  | 0, k, s, hn, _, _ => by rw [shUp_stop _ _ _ (by omega)]; exact .refl _
  | n + 1, k, s, hn, ha, hb => by
    rw [shUp_go _ _ _ (by omega)]
    exact (Run.swap1 s ha (by omega) (by omega) (by omega)).trans (shUp_run a b e n (k + 1) _ (by omega) (by omega) hb)
omit lt in
theorem shDn_run (a b i : Nat) (ha : a ≤ i) : ∀ (k : Nat) (s : St α), k < b → Run a b s (shDn i k s)
  | 0, s, _ => by rw [shDn_stop _ _ _ (by omega)]; exact .refl _
  | k + 1, s, hb => by
    rcases Nat.lt_or_ge i (k + 1) with h | h
    · rw [shDn_go _ _ _ h]
      exact (Run.swap1 s (by omega) hb (by omega) (by omega)).trans (shDn_run a b i ha k _ (by omega))
    · rw [shDn_stop _ _ _ h]; exact .refl _
omit lt in
theorem swRange_run (a b x y n : Nat) (h1 : a ≤ x) (h2 : x + n ≤ b) (h3 : a ≤ y) (h4 : y + n ≤ b) : ∀ (k i : Nat) (s : St α), n - i = k → Run a b s (swRange x y n i s)
  | 0, i, s, hk => by rw [swRange_stop _ _ _ _ _ (by omega)]; exact .refl _
  | k + 1, i, s, hk => by
    rw [swRange_go _ _ _ _ _ (by omega)]
    exact (Run.swap1 s (by omega) (by omega) (by omega) (by omega)).trans (swRange_run a b x y n h1 h2 h3 h4 k (i + 1) _ (by omega))
omit lt in
theorem rot_run (a b m : Nat) : ∀ (n i j : Nat) (s : St α), i + j = n → 0 < i → 0 < j → a + i ≤ m → m + j ≤ b → Run a b s (rot m i j s) := by
  intro n
  induction n using Nat.strongRecOn with
  | ind n ih =>
    intro i j s hn hi hj ha hb
    rcases Nat.lt_trichotomy i j with h | h | h
    · rw [rot_right _ _ _ _ hi h]
      exact (swRange_run a b (m - i) (m + j - i) i (by omega) (by omega) (by omega) (by omega) _ _ s rfl).trans (ih _ (by omega) _ _ _ rfl hi (by omega) ha (by omega))
    · subst h
      rw [rot_end _ _ _ hi]
      exact swRange_run a b (m - i) m i (by omega) (by omega) (by omega) (by omega) _ _ s rfl
    · rw [rot_left _ _ _ _ hj h]
      exact (swRange_run a b (m - i) m j (by omega) (by omega) (by omega) (by omega) _ _ s rfl).trans (ih _ (by omega) _ _ _ rfl (by omega) hj (by omega) hb)
omit lt in
theorem rotate_run (a m b : Nat) (s : St α) (h1 : a < m) (h2 : m < b) : Run a b s (rotate a m b s) := rot_run a b m _ _ _ s rfl (by omega) (by omega) (by omega) (by omega)

/-- The bounds of symMerge's search, and of what it finds. -/
theorem lo_hi (a m b : Nat) (h1 : a + 1 < m) (h2 : m + 1 < b) : lo a m b ≤ hi a m b ∧ a ≤ lo a m b ∧ hi a m b ≤ m ∧ hi a m b ≤ (a + b) / 2 ∧ (a + b) / 2 + m - lo a m b ≤ b ∧
    (lo a m b = a ∨ (a + b) / 2 + m - lo a m b = b) ∧ (hi a m b = m ∨ hi a m b = (a + b) / 2 ∧ (a + b) / 2 < m) := by
  unfold lo hi
  split <;> refine ⟨?_, ?_, ?_, ?_, ?_, ?_, ?_⟩ <;> omega

theorem bsC_all (a m b : Nat) (s : St α) (h1 : a + 1 < m) (h2 : m + 1 < b) :
    lo a m b ≤ (bsC lt a m b s).1 ∧ (bsC lt a m b s).1 ≤ hi a m b ∧ (bsC lt a m b s).2.d = s.d ∧ Run a b s (bsC lt a m b s).2 ∧
    ((bsC lt a m b s).1 = lo a m b ∨ (lo a m b < (bsC lt a m b s).1 ∧ Ev.less ((a + b) / 2 + m - (bsC lt a m b s).1) ((bsC lt a m b s).1 - 1) s.d[(a + b) / 2 + m - (bsC lt a m b s).1]! s.d[(bsC lt a m b s).1 - 1]! ∈ (bsC lt a m b s).2.log ∧
      lt s.d[(a + b) / 2 + m - (bsC lt a m b s).1]! s.d[(bsC lt a m b s).1 - 1]! = false)) ∧
    ((bsC lt a m b s).1 = hi a m b ∨ ((bsC lt a m b s).1 < hi a m b ∧ Ev.less ((a + b) / 2 + m - (bsC lt a m b s).1 - 1) (bsC lt a m b s).1 s.d[(a + b) / 2 + m - (bsC lt a m b s).1 - 1]! s.d[(bsC lt a m b s).1]! ∈ (bsC lt a m b s).2.log ∧
      lt s.d[(a + b) / 2 + m - (bsC lt a m b s).1 - 1]! s.d[(bsC lt a m b s).1]! = true)) := by
  obtain ⟨e1, e2, e3, e4, e5, e6, e7⟩ := lo_hi a m b h1 h2
  have h := bs_all lt (fun c => ((a + b) / 2 + m - 1 - c, c)) false a b _ (lo a m b) (hi a m b) s rfl e1 (fun c hc1 hc2 => ⟨by show a ≤ (a + b) / 2 + m - 1 - c; omega, by show (a + b) / 2 + m - 1 - c < b; omega, by show a ≤ c; omega, by show c < b; omega⟩)
  change lo a m b ≤ (bsC lt a m b s).1 ∧ (bsC lt a m b s).1 ≤ hi a m b ∧ (bsC lt a m b s).2.d = s.d ∧ Run a b s (bsC lt a m b s).2 ∧
    ((bsC lt a m b s).1 = lo a m b ∨ (lo a m b < (bsC lt a m b s).1 ∧ Ev.less ((a + b) / 2 + m - 1 - ((bsC lt a m b s).1 - 1)) ((bsC lt a m b s).1 - 1) s.d[(a + b) / 2 + m - 1 - ((bsC lt a m b s).1 - 1)]! s.d[(bsC lt a m b s).1 - 1]! ∈ (bsC lt a m b s).2.log ∧
      lt s.d[(a + b) / 2 + m - 1 - ((bsC lt a m b s).1 - 1)]! s.d[(bsC lt a m b s).1 - 1]! = false)) ∧
    ((bsC lt a m b s).1 = hi a m b ∨ ((bsC lt a m b s).1 < hi a m b ∧ Ev.less ((a + b) / 2 + m - 1 - (bsC lt a m b s).1) (bsC lt a m b s).1 s.d[(a + b) / 2 + m - 1 - (bsC lt a m b s).1]! s.d[(bsC lt a m b s).1]! ∈ (bsC lt a m b s).2.log ∧
      lt s.d[(a + b) / 2 + m - 1 - (bsC lt a m b s).1]! s.d[(bsC lt a m b s).1]! = true)) at h
  obtain ⟨r1, r2, r3, r4, r5, r6⟩ := h
  refine ⟨r1, r2, r3, r4, ?_, ?_⟩
  · rcases r5 with r5 | r5
    · exact .inl r5
    · rw [show (a + b) / 2 + m - 1 - ((bsC lt a m b s).1 - 1) = (a + b) / 2 + m - (bsC lt a m b s).1 from by omega] at r5
      exact .inr r5
  · rcases r6 with r6 | r6
    · exact .inl r6
    · rw [show (a + b) / 2 + m - 1 - (bsC lt a m b s).1 = (a + b) / 2 + m - (bsC lt a m b s).1 - 1 from by omega] at r6
      exact .inr r6

omit lt in
theorem turn_run (a m b k : Nat) (s : St α) (h1 : a ≤ k) (h2 : (a + b) / 2 + m - k ≤ b) : Run a b s (turn a m b (k, s)) := by
  unfold turn
  split
  · rename_i h
    exact (rotate_run k m _ s h.1 h.2).mono h1 h2
  · exact .refl _

theorem symMerge_run : ∀ (n a m b : Nat) (s : St α), b - a = n → a < m → m < b → Run a b s (symMerge lt a m b s) := by
  intro n
  induction n using Nat.strongRecOn with
  | ind n ih =>
    intro a m b s hn ham hmb
    by_cases h1 : m - a = 1
    · rw [symMerge_first _ _ _ _ _ h1]
      obtain ⟨r1, r2, r3, r4, _, _⟩ := bs_all lt (fun h => (h, a)) true a b _ m b s rfl (by omega) (fun h h1 h2 => ⟨by simp; omega, by simp; omega, by simp, by simp; omega⟩)
      exact r4.trans (shUp_run a b _ _ a _ rfl (Nat.le_refl _) (by omega))
    · by_cases h2 : b - m = 1
      · rw [symMerge_last _ _ _ _ _ h1 h2]
        obtain ⟨r1, r2, r3, r4, _, _⟩ := bs_all lt (fun h => (m, h)) false a b _ a m s rfl (by omega) (fun h h1 h2 => ⟨by simp; omega, by simp; omega, by simp; omega, by simp; omega⟩)
        exact r4.trans (shDn_run a b _ r1 m _ hmb)
      · rw [symMerge_else _ _ _ _ _ h1 h2]
        obtain ⟨e1, e2, e3, e4, e5, e6, e7⟩ := lo_hi a m b (by omega) (by omega)
        obtain ⟨r1, r2, r3, r4, _, _⟩ := bsC_all lt a m b s (by omega) (by omega)
        generalize bsC lt a m b s = r at r1 r2 r3 r4 ⊢
        obtain ⟨k, s1⟩ := r
        simp only at r1 r2 r3 r4 ⊢
        refine (r4.trans (turn_run a m b k s1 (by omega) (by omega))).trans ?_
        generalize turn a m b (k, s1) = s2
        have g1 : Run a b s2 (half1 lt a b k s2) := by
          unfold half1
          split
          · exact (ih _ (by omega) a k _ s2 rfl (by omega) (by omega)).mono (Nat.le_refl _) (by omega)
          · exact .refl _
        refine g1.trans ?_
        generalize half1 lt a b k s2 = s3
        unfold half2
        split
        · exact (ih _ (by omega) _ _ b s3 rfl (by omega) (by omega)).mono (by omega) (Nat.le_refl _)
        · exact .refl _

theorem insBlocks_run (n : Nat) : ∀ (k a b : Nat) (s : St α), n + 1 - b = k → Run 0 n s (insBlocks lt n a b s) := by
  intro k
  induction k using Nat.strongRecOn with
  | ind k ih =>
    intro a b s hk
    by_cases h : b ≤ n
    · rw [insBlocks_go _ _ _ _ _ h]
      exact ((insSort_run lt a b s).mono (Nat.zero_le _) h).trans (ih _ (by omega) _ _ _ rfl)
    · rw [insBlocks_stop _ _ _ _ _ h]
      exact (insSort_run lt a n s).mono (Nat.zero_le _) (Nat.le_refl _)
theorem mergePass_run (n z : Nat) (hz : 0 < z) : ∀ (k a b : Nat) (s : St α), n + 1 - b = k → b = a + 2 * z → Run 0 n s (mergePass lt n z a b s) := by
  intro k
  induction k using Nat.strongRecOn with
  | ind k ih =>
    intro a b s hk hb
    by_cases h : b ≤ n
    · rw [mergePass_go _ _ _ _ _ _ hz h]
      exact ((symMerge_run lt _ a (a + z) b s rfl (by omega) (by omega)).mono (Nat.zero_le _) h).trans (ih _ (by omega) _ _ _ rfl rfl)
    · by_cases h2 : a + z < n
      · rw [mergePass_last _ _ _ _ _ _ h h2]
        exact (symMerge_run lt _ a (a + z) n s rfl (by omega) (by omega)).mono (Nat.zero_le _) (Nat.le_refl _)
      · rw [mergePass_stop _ _ _ _ _ _ h h2]; exact .refl _
theorem passes_run (n : Nat) : ∀ (k z : Nat) (s : St α), n - z = k → 0 < z → Run 0 n s (passes lt n z s) := by
  intro k
  induction k using Nat.strongRecOn with
  | ind k ih =>
    intro z s hk hz
    by_cases h : z < n
    · rw [passes_go _ _ _ _ hz h]
      exact (mergePass_run lt n z hz _ 0 (2 * z) s rfl (by omega)).trans (ih _ (by omega) _ _ rfl (by omega))
    · rw [passes_stop _ _ _ _ h]; exact .refl _
theorem stable_run (n : Nat) (s : St α) : Run 0 n s (stable lt n s) := (insBlocks_run lt n _ _ _ s rfl).trans (passes_run lt n _ _ _ rfl (by omega))

/-! ### Where the elements lie behind the shifts and the rotation -/
omit lt in
theorem shUp_get (e : Nat) : ∀ (n k : Nat) (s : St α), e - k = n → k ≤ e → e < s.d.size → ∀ x, (shUp e k s).d[x]! = s.d[if k ≤ x ∧ x < e then x + 1 else if x = e then k else x]!
  | 0, k, s, hn, hk, he, x => by
    rw [shUp_stop _ _ _ (by omega)]
    congr 1
    (repeat' split) <;> omega
  | n + 1, k, s, hn, hk, he, x => by
    rw [shUp_go _ _ _ (by omega), shUp_get e n (k + 1) _ (by omega) (by omega) (by rw [St.swap_d, size_swp]; exact he) x, St.swap_d, swp_get s.d (by omega) (by omega)]
    by_cases h1 : k + 1 ≤ x ∧ x < e
    · rw [if_pos h1, if_neg (by omega), if_neg (by omega), if_pos (by omega)]
    · rw [if_neg h1]
      by_cases h2 : x = e
      · rw [if_pos h2, if_pos rfl, if_neg (by omega), if_pos h2]
      · rw [if_neg h2]
        by_cases h3 : x = k
        · rw [if_neg (by omega), if_pos h3, if_pos (by omega), h3]
        · rw [if_neg (by omega), if_neg h3, if_neg (by omega), if_neg h2]
omit lt in
theorem shDn_get (i : Nat) : ∀ (k : Nat) (s : St α), i ≤ k → k < s.d.size → ∀ x, (shDn i k s).d[x]! = s.d[if x = i then k else if i < x ∧ x ≤ k then x - 1 else x]!
  | 0, s, hi, hk, x => by
    rw [shDn_stop _ _ _ (by omega)]
    congr 1
    (repeat' split) <;> omega
  | k + 1, s, hi, hk, x => by
    rcases Nat.lt_or_ge i (k + 1) with h | h
    · rw [shDn_go _ _ _ h, shDn_get i k _ (by omega) (by rw [St.swap_d, size_swp]; omega) x, St.swap_d, swp_get s.d hk (by omega)]
      by_cases h1 : x = i
      · rw [if_pos h1, if_pos rfl, if_pos h1]
      · rw [if_neg h1, if_neg h1]
        by_cases h2 : i < x ∧ x ≤ k
        · rw [if_pos h2, if_neg (by omega), if_neg (by omega), if_pos (by omega)]
        · rw [if_neg h2, if_neg (by omega)]
          by_cases h3 : x = k + 1
          · rw [if_pos h3, if_pos (by omega), h3, Nat.add_sub_cancel]
          · rw [if_neg h3, if_neg (by omega)]
    · rw [shDn_stop _ _ _ h]
      congr 1
      (repeat' split) <;> omega
omit lt in
theorem swRange_get (a b n : Nat) (hab : a + n ≤ b) : ∀ (k i : Nat) (s : St α), n - i = k → b + n ≤ s.d.size → ∀ x, (swRange a b n i s).d[x]! = s.d[if a + i ≤ x ∧ x < a + n then x + b - a else if b + i ≤ x ∧ x < b + n then x - b + a else x]!
  | 0, i, s, hk, hs, x => by
    rw [swRange_stop _ _ _ _ _ (by omega), if_neg (by omega), if_neg (by omega)]
  | k + 1, i, s, hk, hs, x => by
    rw [swRange_go _ _ _ _ _ (by omega), swRange_get a b n hab k (i + 1) _ (by omega) (by rw [St.swap_d, size_swp]; exact hs) x, St.swap_d, swp_get s.d (by omega) (by omega)]
    by_cases h1 : a + (i + 1) ≤ x ∧ x < a + n
    · rw [if_pos h1, if_neg (by omega), if_neg (by omega), if_pos (by omega)]
    · rw [if_neg h1]
      by_cases h2 : b + (i + 1) ≤ x ∧ x < b + n
      · rw [if_pos h2, if_neg (by omega), if_neg (by omega), if_neg (by omega), if_pos (by omega)]
      · rw [if_neg h2]
        by_cases h3 : x = b + i
        · rw [if_pos h3, if_neg (by omega), if_pos (by omega)]; congr 1; omega
        · rw [if_neg h3]
          by_cases h4 : x = a + i
          · rw [if_pos h4, if_pos (by omega)]; congr 1; omega
          · rw [if_neg h4, if_neg (by omega), if_neg (by omega)]

/-- Where the rotation takes place x's element from. -/
def rotIx (m i j x : Nat) : Nat := if m - i ≤ x ∧ x < m - i + j then x + i else if m - i + j ≤ x ∧ x < m + j then x - j else x
omit lt in
theorem rot_get (m : Nat) : ∀ (n i j : Nat) (s : St α), i + j = n → 0 < i → 0 < j → i ≤ m → m + j ≤ s.d.size → ∀ x, (rot m i j s).d[x]! = s.d[rotIx m i j x]! := by
  intro n
  induction n using Nat.strongRecOn with
  | ind n ih =>
    intro i j s hn hi hj hm hs x
    have sz : ∀ a b c, (swRange a b c 0 s).d.size = s.d.size := fun a b c =>
      (swRange_run 0 (a + b + c) a b c (by omega) (by omega) (by omega) (by omega) _ 0 s rfl).size
    rcases Nat.lt_trichotomy i j with h | h | h
    · rw [rot_right _ _ _ _ hi h, ih _ (by omega) _ _ _ rfl hi (by omega) hm (by rw [sz]; omega) x, swRange_get _ _ _ (by omega) _ _ s rfl (by omega)]
      congr 1
      unfold rotIx
      (repeat' split) <;> omega
    · subst h
      rw [rot_end _ _ _ hi, swRange_get _ _ _ (by omega) _ _ s rfl hs]
      congr 1
      unfold rotIx
      (repeat' split) <;> omega
    · rw [rot_left _ _ _ _ hj h, ih _ (by omega) _ _ _ rfl (by omega) hj (by omega) (by rw [sz]; omega) x, swRange_get _ _ _ (by omega) _ _ s rfl (by omega)]
      congr 1
      unfold rotIx
      (repeat' split) <;> omega

/-- Where symMerge's search and rotation take place x's element from: [a, k) stays, then what lay in [m, e), then what lay in [k, m), then [e, b). -/
def turnIx (a m b k x : Nat) : Nat := if k ≤ x ∧ x < (a + b) / 2 then x + (m - k) else if (a + b) / 2 ≤ x ∧ x < (a + b) / 2 + m - k then x + k - (a + b) / 2 else x
omit lt in
theorem turn_get (a m b k : Nat) (s : St α) (h1 : k ≤ m) (h2 : k ≤ (a + b) / 2) (h3 : (a + b) / 2 + m - k ≤ s.d.size) (x : Nat) : (turn a m b (k, s)).d[x]! = s.d[turnIx a m b k x]! := by
  unfold turn
  split
  · rename_i h
    unfold rotate
    rw [rot_get m _ _ _ s rfl (by simp only at h ⊢; omega) (by simp only at h ⊢; omega) (by omega) (by simp only at h ⊢; omega) x]
    congr 1
    unfold rotIx turnIx
    simp only at h ⊢
    (repeat' split) <;> omega
  · rename_i h
    congr 1
    unfold turnIx
    simp only at h
    (repeat' split) <;> omega

end Go.Proofs.Ytdpomoengbpcaaa
