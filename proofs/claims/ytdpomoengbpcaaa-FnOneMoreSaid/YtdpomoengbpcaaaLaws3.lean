/- Plain laws of the stable sort: what is asked: a later entry is held against an earlier one, always; a list in order is left alone; no program in this text. -/
import Derived.Test.YtdpomoengbpcaaaLaws2
namespace Go.Proofs.Ytdpomoengbpcaaa
open Go.Sort
variable {α : Type} [Inhabited α] (lt : α → α → Bool)

/-! ### An invariant of the whole: of blocks (F), and of the state (G) -/
section
variable (F : Nat → Nat → Array α → Prop) (G : St α → Prop) (n : Nat)
    (hext : ∀ a b d d', F a b d → (∀ p, a ≤ p → p < b → d'[p]! = d[p]!) → F a b d')
    (hmerge : ∀ a m b (s : St α), a < m → m < b → b ≤ n → n ≤ s.d.size → G s → F a m s.d → F m b s.d → G (symMerge lt a m b s) ∧ F a b (symMerge lt a m b s).d)

/-- F holds of each block of z entries that begins below n. -/
def BlocksF (z : Nat) (d : Array α) : Prop := ∀ c, c * z < n → F (c * z) (min ((c + 1) * z) n) d

include hext hmerge in
theorem mergePass_inv (z : Nat) (hz : 0 < z) : ∀ (k c : Nat) (s : St α), n + 1 - (c * (2 * z) + 2 * z) = k → c * (2 * z) ≤ n → n ≤ s.d.size → G s → (∀ e, e < c → F (e * (2 * z)) ((e + 1) * (2 * z)) s.d) →
    (∀ e, 2 * c ≤ e → e * z < n → F (e * z) (min ((e + 1) * z) n) s.d) →
    G (mergePass lt n z (c * (2 * z)) (c * (2 * z) + 2 * z) s) ∧ BlocksF F n (2 * z) (mergePass lt n z (c * (2 * z)) (c * (2 * z) + 2 * z) s).d := by
  intro k
  induction k using Nat.strongRecOn with
  | ind k ih =>
    intro c s hk hcn hn hG hs hr
    have e : c * (2 * z) + 2 * z = (c + 1) * (2 * z) := by rw [Nat.add_mul, Nat.one_mul]
    have e0 : (2 * c) * z = c * (2 * z) := by rw [Nat.mul_comm 2 c, Nat.mul_assoc]
    have e1 : (2 * c + 1) * z = c * (2 * z) + z := by rw [Nat.add_mul, e0, Nat.one_mul]
    have e2 : (2 * c + 1 + 1) * z = c * (2 * z) + 2 * z := by rw [Nat.add_mul, e1, Nat.one_mul]; omega
    have A := hr (2 * c) (Nat.le_refl _)
    have B := hr (2 * c + 1) (by omega)
    rw [e0, e1] at A
    rw [e1, e2] at B
    by_cases h : c * (2 * z) + 2 * z ≤ n
    · rw [mergePass_go _ _ _ _ _ _ hz h]
      have ri := symMerge_run lt _ (c * (2 * z)) (c * (2 * z) + z) (c * (2 * z) + 2 * z) s rfl (by omega) (by omega)
      have A' := A (by omega)
      have B' := B (by omega)
      rw [show min (c * (2 * z) + z) n = c * (2 * z) + z by omega] at A'
      rw [show min (c * (2 * z) + 2 * z) n = c * (2 * z) + 2 * z by omega] at B'
      have hS := hmerge _ _ _ s (show c * (2 * z) < c * (2 * z) + z by omega) (show c * (2 * z) + z < c * (2 * z) + 2 * z by omega) h hn hG A' B'
      have hP := ri.perm (by omega)
      have sz := ri.size
      generalize symMerge lt (c * (2 * z)) (c * (2 * z) + z) (c * (2 * z) + 2 * z) s = s1 at hS hP sz ⊢
      have := ih (n + 1 - ((c + 1) * (2 * z) + 2 * z)) (by omega) (c + 1) s1 rfl (by omega) (by rw [sz]; exact hn) hS.1 (by
        intro e' he'
        by_cases hee : e' = c
        · subst hee; rw [← e]; exact hS.2
        · have b1 : (e' + 1) * (2 * z) ≤ c * (2 * z) := Nat.mul_le_mul_right _ (by omega)
          exact hext _ _ _ _ (hs e' (by omega)) (fun p _ hp => hP.2.1 p (.inl (by omega)))) (by
        intro e' he' hlt
        have b1 : (2 * (c + 1)) * z ≤ e' * z := Nat.mul_le_mul_right _ he'
        have b2 : (2 * (c + 1)) * z = c * (2 * z) + 2 * z := by rw [← e2, show 2 * (c + 1) = 2 * c + 1 + 1 from by omega]
        exact hext _ _ _ _ (hr e' (by omega) hlt) (fun p hp _ => hP.2.1 p (.inr (by omega))))
      rw [← e] at this
      exact this
    · have fin : ∀ s1 : St α, (c * (2 * z) < n → F (c * (2 * z)) n s1.d) → PermIn (c * (2 * z)) n s.d s1.d → BlocksF F n (2 * z) s1.d := by
        intro s1 hS hP e' hlt
        rcases Nat.lt_trichotomy e' c with he | he | he
        · have b1 : (e' + 1) * (2 * z) ≤ c * (2 * z) := Nat.mul_le_mul_right _ (by omega)
          rw [show min ((e' + 1) * (2 * z)) n = (e' + 1) * (2 * z) by omega]
          exact hext _ _ _ _ (hs e' he) (fun p _ hp => hP.2.1 p (.inl (by omega)))
        · subst he
          rw [show min ((e' + 1) * (2 * z)) n = n by omega]; exact hS hlt
        · have b1 : (c + 1) * (2 * z) ≤ e' * (2 * z) := Nat.mul_le_mul_right _ (by omega)
          omega
      by_cases h2 : c * (2 * z) + z < n
      · rw [mergePass_last _ _ _ _ _ _ h h2]
        have ri := symMerge_run lt _ (c * (2 * z)) (c * (2 * z) + z) n s rfl (by omega) h2
        have A' := A (by omega)
        have B' := B (by omega)
        rw [show min (c * (2 * z) + z) n = c * (2 * z) + z by omega] at A'
        rw [show min (c * (2 * z) + 2 * z) n = n by omega] at B'
        have hS := hmerge _ _ _ s (show c * (2 * z) < c * (2 * z) + z by omega) h2 (Nat.le_refl _) hn hG A' B'
        exact ⟨hS.1, fin _ (fun _ => hS.2) (ri.perm hn)⟩
      · rw [mergePass_stop _ _ _ _ _ _ h h2]
        refine ⟨hG, fin _ (fun hlt => ?_) (permIn_refl _ _ _)⟩
        have A' := A hlt
        rw [show min (c * (2 * z) + z) n = n by omega] at A'
        exact A'

include hext hmerge in
theorem passes_inv : ∀ (k z : Nat) (s : St α), n - z = k → 0 < z → n ≤ s.d.size → G s → BlocksF F n z s.d → G (passes lt n z s) ∧ (0 < n → F 0 n (passes lt n z s).d) := by
  intro k
  induction k using Nat.strongRecOn with
  | ind k ih =>
    intro z s hk hz hn hG hs
    by_cases h : z < n
    · rw [passes_go _ _ _ _ hz h]
      have ri := mergePass_run lt n z hz _ 0 (2 * z) s rfl (by omega)
      have hS := mergePass_inv lt F G n hext hmerge z hz _ 0 s rfl (by omega) hn hG (fun e he => by omega) (fun e _ => hs e)
      rw [Nat.zero_mul, Nat.zero_add] at hS
      exact ih _ (by omega) (z * 2) _ rfl (by omega) (by rw [ri.size]; exact hn) hS.1 (by rw [Nat.mul_comm]; exact hS.2)
    · rw [passes_stop _ _ _ _ h]
      refine ⟨hG, fun h0 => ?_⟩
      have := hs 0 (by omega)
      rwa [Nat.zero_mul, Nat.zero_add, Nat.one_mul, show min z n = n by omega] at this

variable (E : Nat → Nat → Array α → Prop) (hextE : ∀ a b d d', E a b d → (∀ p, a ≤ p → p < b → d'[p]! = d[p]!) → E a b d')
    (hins : ∀ a b (s : St α), a < b → b ≤ n → n ≤ s.d.size → G s → E a b s.d → G (insSort lt a b s) ∧ F a b (insSort lt a b s).d)
include hext hextE hins in
theorem insBlocks_inv : ∀ (k c : Nat) (s : St α), n + 1 - (c * 20 + 20) = k → c * 20 ≤ n → n ≤ s.d.size → G s → (∀ e, e < c → F (e * 20) (min ((e + 1) * 20) n) s.d) → (∀ e, c ≤ e → e * 20 < n → E (e * 20) (min ((e + 1) * 20) n) s.d) →
    G (insBlocks lt n (c * 20) (c * 20 + 20) s) ∧ BlocksF F n 20 (insBlocks lt n (c * 20) (c * 20 + 20) s).d := by
  intro k
  induction k using Nat.strongRecOn with
  | ind k ih =>
    intro c s hk hc hn hG hs hr
    have e : c * 20 + 20 = (c + 1) * 20 := by omega
    have keepF : ∀ (b : Nat) (d' : Array α), PermIn (c * 20) b s.d d' → ∀ e', e' < c → F (e' * 20) (min ((e' + 1) * 20) n) d' := by
      intro b d' hP e' he
      have b1 : (e' + 1) * 20 ≤ c * 20 := Nat.mul_le_mul_right _ (by omega)
      exact hext _ _ _ _ (hs e' he) (fun p _ hp => hP.2.1 p (.inl (by omega)))
    by_cases h : c * 20 + 20 ≤ n
    · rw [insBlocks_go _ _ _ _ _ h]
      have ri := insSort_run lt (c * 20) (c * 20 + 20) s
      have hP := ri.perm (by omega)
      have F0 := hr c (Nat.le_refl _) (by omega)
      rw [← e, show min (c * 20 + 20) n = c * 20 + 20 by omega] at F0
      have hS := hins (c * 20) (c * 20 + 20) s (by omega) h hn hG F0
      have := ih (n + 1 - ((c + 1) * 20 + 20)) (by omega) (c + 1) (insSort lt (c * 20) (c * 20 + 20) s) rfl (by omega) (by rw [ri.size]; exact hn) hS.1 (by
        intro e' he'
        by_cases hee : e' = c
        · subst hee; rw [← e, show min (e' * 20 + 20) n = e' * 20 + 20 by omega]; exact hS.2
        · exact keepF _ _ hP e' (by omega)) (by
        intro e' he' hlt
        have b1 : (c + 1) * 20 ≤ e' * 20 := Nat.mul_le_mul_right _ he'
        exact hextE _ _ _ _ (hr e' (by omega) hlt) (fun p hp _ => hP.2.1 p (.inr (by omega))))
      rw [← e] at this
      exact this
    · rw [insBlocks_stop _ _ _ _ _ h]
      have ri := insSort_run lt (c * 20) n s
      have fin : ∀ d', PermIn (c * 20) n s.d d' → (c * 20 < n → F (c * 20) n d') → BlocksF F n 20 d' := by
        intro d' hP hF e' hlt
        rcases Nat.lt_trichotomy e' c with he | he | he
        · exact keepF _ _ hP e' he
        · subst he; rw [show min ((e' + 1) * 20) n = n by omega]; exact hF hlt
        · have b1 : (c + 1) * 20 ≤ e' * 20 := Nat.mul_le_mul_right _ (by omega)
          omega
      by_cases hcn : c * 20 < n
      · have F0 := hr c (Nat.le_refl _) hcn
        rw [show min ((c + 1) * 20) n = n by omega] at F0
        have hS := hins (c * 20) n s hcn (Nat.le_refl _) hn hG F0
        exact ⟨hS.1, fin _ (ri.perm hn) (fun _ => hS.2)⟩
      · have e0 : insSort lt (c * 20) n s = s := by unfold insSort; rw [insOut_stop _ _ _ _ _ (by omega)]
        rw [e0]; exact ⟨hG, fin _ (permIn_refl _ _ _) (fun h => by omega)⟩

include hext hmerge hextE hins in
/-- An invariant of the whole sort: E of the blocks at the start, F of them behind the insertion sort and the merges. -/
theorem stable_inv (s : St α) (hn : n ≤ s.d.size) (hG : G s) (h0 : ∀ a b, a < b → b ≤ n → E a b s.d) : G (stable lt n s) ∧ (0 < n → F 0 n (stable lt n s).d) := by
  unfold stable
  have h1 := insBlocks_inv lt F G n hext E hextE hins _ 0 s rfl (by omega) hn hG (fun e he => by omega) (fun c _ hc => h0 _ _ (by omega) (by omega))
  rw [Nat.zero_mul, Nat.zero_add] at h1
  exact passes_inv lt F G n hext hmerge _ 20 _ rfl (by omega) (by rw [(insBlocks_run lt n _ 0 20 s rfl).size]; exact hn) h1.1 h1.2
end

/-! ### What is asked -/
/-- The entries of [a, b) are among those of d0's [a, b). -/
def Src (d0 : Array α) (a b : Nat) (d : Array α) : Prop := ∀ p, a ≤ p → p < b → ∃ p', a ≤ p' ∧ p' < b ∧ d[p]! = d0[p']!
/-- In all that was asked a later entry of d0 was held against an earlier one. -/
def AskOk (d0 : Array α) (n : Nat) (s : St α) : Prop := ∀ i j x y, Ev.less i j x y ∈ s.log → ∃ p q, p < q ∧ q < n ∧ y = d0[p]! ∧ x = d0[q]!

omit lt in
theorem Src.ext (d0 : Array α) : ∀ a b d d', Src d0 a b d → (∀ p, a ≤ p → p < b → d'[p]! = d[p]!) → Src d0 a b d' := fun a b d d' h he p h1 h2 => by
  rw [he p h1 h2]; exact h p h1 h2
omit lt in
theorem Src.perm {d0 d d' : Array α} {a b : Nat} (h : Src d0 a b d) (hP : PermIn a b d d') (hb : b ≤ d.size) : Src d0 a b d' := fun p h1 h2 =>
  permIn_all d d' a b (fun v => ∃ p', a ≤ p' ∧ p' < b ∧ v = d0[p']!) hb hP h p h1 h2

theorem insIn_asks (a : Nat) : ∀ (j : Nat) (s : St α), j < s.d.size → ∀ e ∈ (insIn lt a j s).log, e ∈ s.log ∨ (∃ i i', e = Ev.swap i i') ∨ ∃ i i' p, e = Ev.less i i' s.d[j]! s.d[p]! ∧ a ≤ p ∧ p < j
  | 0, s, _, e, he => by rw [insIn_stop _ _ _ _ (by omega)] at he; exact .inl he
  | j + 1, s, hj, e, he => by
    rcases Nat.lt_or_ge a (j + 1) with h | h
    · cases hl : lt s.d[j + 1]! s.d[j]! with
      | true =>
        rw [insIn_go _ _ _ _ h hl] at he
        have g := swp_get s.d hj (show j < s.d.size by omega)
        rcases insIn_asks a j _ (by rw [St.swap_d, size_swp, St.ask_d]; omega) e he with h1 | h1 | ⟨i, i', p, h1, h2, h3⟩
        · simp only [St.swap_log, St.ask_log, List.mem_append, List.mem_singleton] at h1
          rcases h1 with (h1 | h1) | h1
          · exact .inl h1
          · exact .inr (.inr ⟨_, _, j, h1, by omega, by omega⟩)
          · exact .inr (.inl ⟨_, _, h1⟩)
        · exact .inr (.inl h1)
        · refine .inr (.inr ⟨i, i', p, ?_, h2, by omega⟩)
          rw [h1, St.swap_d, St.ask_d, g, g, if_pos rfl, if_neg (by omega), if_neg (by omega)]
      | false =>
        rw [insIn_no _ _ _ _ h hl] at he
        simp only [St.ask_log, List.mem_append, List.mem_singleton] at he
        rcases he with he | he
        · exact .inl he
        · exact .inr (.inr ⟨_, _, j, he, by omega, by omega⟩)
    · rw [insIn_stop _ _ _ _ h] at he; exact .inl he

theorem insOut_asks (d0 : Array α) (n a b : Nat) (hbn : b ≤ n) : ∀ (k i : Nat) (s : St α), b - i = k → a < i → b ≤ s.d.size → Src d0 a i s.d → (∀ p, i ≤ p → p < b → s.d[p]! = d0[p]!) → AskOk d0 n s → AskOk d0 n (insOut lt a b i s)
  | 0, i, s, hk, _, _, _, _, hA => by rw [insOut_stop _ _ _ _ _ (by omega)]; exact hA
  | k + 1, i, s, hk, hai, hb, hS, hO, hA => by
    have hlt : i < b := by omega
    rw [insOut_go _ _ _ _ _ hlt]
    have hr := insIn_run lt a (i + 1) i s (by omega)
    have hP := hr.perm (by omega)
    refine insOut_asks d0 n a b hbn k (i + 1) _ (by omega) (by omega) (by rw [hr.size]; exact hb) ?_ ?_ ?_
    · refine Src.perm (d := s.d) (fun p h1 h2 => ?_) hP (by omega)
      by_cases e : p = i
      · subst e; exact ⟨p, h1, h2, hO p (Nat.le_refl _) hlt⟩
      · obtain ⟨p', g1, g2, g3⟩ := hS p h1 (by omega)
        exact ⟨p', g1, by omega, g3⟩
    · intro p h1 h2
      rw [hP.2.1 p (.inr h1)]; exact hO p (by omega) h2
    · intro i1 j1 x y hm
      rcases insIn_asks lt a i s (by omega) _ hm with h1 | ⟨_, _, h1⟩ | ⟨_, _, p, h1, h2, h3⟩
      · exact hA i1 j1 x y h1
      · cases h1
      · injection h1 with _ _ hx hy
        obtain ⟨p', g1, g2, g3⟩ := hS p h2 h3
        exact ⟨p', i, g2, by omega, by rw [hy, g3], by rw [hx, hO i (Nat.le_refl _) hlt]⟩

theorem symMerge_cross : ∀ (n a m b : Nat) (s : St α), b - a = n → a < m → m < b → b ≤ s.d.size → ∀ i j x y, Ev.less i j x y ∈ (symMerge lt a m b s).log →
    Ev.less i j x y ∈ s.log ∨ ((∃ q, m ≤ q ∧ q < b ∧ x = s.d[q]!) ∧ ∃ p, a ≤ p ∧ p < m ∧ y = s.d[p]!) := by
  intro n
  induction n using Nat.strongRecOn with
  | ind n ih =>
    intro a m b s hn ham hmb hsz i j x y hm
    by_cases h1 : m - a = 1
    · rw [symMerge_first _ _ _ _ _ h1] at hm
      obtain ⟨r1, r2, r3, r4, r5, r6⟩ := bs_all lt (fun h => (h, a)) true a b _ m b s rfl (by omega) (fun h h1 h2 => ⟨by simp; omega, by simp; omega, by simp, by simp; omega⟩)
      have hlog : ∀ (e' k : Nat) (s1 : St α) (ev : Ev α), ev ∈ (shUp e' k s1).log → ev ∈ s1.log ∨ ∃ i i', ev = Ev.swap i i' := by
        intro e' k s1 ev
        generalize hk : e' - k = q
        induction q generalizing k s1 with
        | zero => rw [shUp_stop _ _ _ (by omega)]; exact .inl
        | succ q ihq =>
          rw [shUp_go _ _ _ (by omega)]
          intro h
          rcases ihq (k + 1) _ (by omega) h with h | h
          · simp only [St.swap_log, List.mem_append, List.mem_singleton] at h
            rcases h with h | h
            · exact .inl h
            · exact .inr ⟨_, _, h⟩
          · exact .inr h
      rcases hlog _ _ _ _ hm with hm | ⟨_, _, hm⟩
      · rcases bs_asks lt _ _ _ _ _ _ rfl _ hm with hm | ⟨h, g1, g2, g3⟩
        · exact .inl hm
        · injection g3 with _ _ hx hy
          exact .inr ⟨⟨h, g1, g2, hx⟩, a, Nat.le_refl _, ham, hy⟩
      · cases hm
    · by_cases h2 : b - m = 1
      · rw [symMerge_last _ _ _ _ _ h1 h2] at hm
        have hlog : ∀ (e' k : Nat) (s1 : St α) (ev : Ev α), ev ∈ (shDn e' k s1).log → ev ∈ s1.log ∨ ∃ i i', ev = Ev.swap i i' := by
          intro e' k s1 ev
          induction k generalizing s1 with
          | zero => rw [shDn_stop _ _ _ (by omega)]; exact .inl
          | succ k ihk =>
            rcases Nat.lt_or_ge e' (k + 1) with h | h
            · rw [shDn_go _ _ _ h]
              intro h
              rcases ihk _ h with h | h
              · simp only [St.swap_log, List.mem_append, List.mem_singleton] at h
                rcases h with h | h
                · exact .inl h
                · exact .inr ⟨_, _, h⟩
              · exact .inr h
            · rw [shDn_stop _ _ _ h]; exact .inl
        rcases hlog _ _ _ _ hm with hm | ⟨_, _, hm⟩
        · rcases bs_asks lt _ _ _ _ _ _ rfl _ hm with hm | ⟨h, g1, g2, g3⟩
          · exact .inl hm
          · injection g3 with _ _ hx hy
            exact .inr ⟨⟨m, Nat.le_refl _, hmb, hx⟩, h, g1, g2, hy⟩
        · cases hm
      · rw [symMerge_else _ _ _ _ _ h1 h2] at hm
        obtain ⟨e1, e2, e3, e4, e5, e6, e7⟩ := lo_hi a m b (by omega) (by omega)
        obtain ⟨r1, r2, r3, r4, r5, r6⟩ := bsC_all lt a m b s (by omega) (by omega)
        have asks : ∀ e ∈ (bsC lt a m b s).2.log, e ∈ s.log ∨ ∃ h, lo a m b ≤ h ∧ h < hi a m b ∧ e = Ev.less ((a + b) / 2 + m - 1 - h) h s.d[(a + b) / 2 + m - 1 - h]! s.d[h]! := bs_asks lt _ _ _ _ _ s rfl
        generalize bsC lt a m b s = r at r1 r2 r3 r4 r5 r6 hm asks
        obtain ⟨k, s1⟩ := r
        simp only at r1 r2 r3 r4 r5 r6 hm asks
        generalize hmid : (a + b) / 2 = mid at *
        have t1 : Run a b s1 (turn a m b (k, s1)) := turn_run a m b k s1 (by omega) (by omega)
        have g := turn_get a m b k s1 (by omega) (by omega) (by rw [r3]; omega)
        have sz2 : (turn a m b (k, s1)).d.size = s.d.size := by rw [t1.size, r3]
        have tl : ∀ i j x y, Ev.less i j x y ∈ (turn a m b (k, s1)).log → Ev.less i j x y ∈ s1.log := by
          have hsw : ∀ (a b c q : Nat) (s1 : St α) i j x y, Ev.less i j x y ∈ (swRange a b c q s1).log → Ev.less i j x y ∈ s1.log := by
            intro a b c q s1 i j x y
            generalize hk : c - q = z
            induction z generalizing q s1 with
            | zero => rw [swRange_stop _ _ _ _ _ (by omega)]; exact id
            | succ z ihz =>
              rw [swRange_go _ _ _ _ _ (by omega)]
              intro h
              have := ihz (q + 1) _ (by omega) h
              simpa using this
          have hrot : ∀ (z m i' j' : Nat) (s1 : St α) i j x y, i' + j' = z → Ev.less i j x y ∈ (rot m i' j' s1).log → Ev.less i j x y ∈ s1.log := by
            intro z
            induction z using Nat.strongRecOn with
            | ind z ihz =>
              intro m i' j' s1 i j x y hz h
              by_cases h0 : i' = 0 ∨ j' = 0
              · rw [rot, dif_pos h0] at h; exact h
              · rcases Nat.lt_trichotomy i' j' with hh | hh | hh
                · rw [rot_right _ _ _ _ (by omega) hh] at h
                  exact hsw _ _ _ _ _ _ _ _ _ (ihz _ (by omega) _ _ _ _ _ _ _ _ rfl h)
                · subst hh
                  rw [rot_end _ _ _ (by omega)] at h
                  exact hsw _ _ _ _ _ _ _ _ _ h
                · rw [rot_left _ _ _ _ (by omega) hh] at h
                  exact hsw _ _ _ _ _ _ _ _ _ (ihz _ (by omega) _ _ _ _ _ _ _ _ rfl h)
          intro i j x y h
          unfold turn at h
          split at h
          · exact hrot _ _ _ _ _ _ _ _ _ rfl h
          · exact h
        have base : ∀ i j x y, Ev.less i j x y ∈ s1.log → Ev.less i j x y ∈ s.log ∨ ((∃ q, m ≤ q ∧ q < b ∧ x = s.d[q]!) ∧ ∃ p, a ≤ p ∧ p < m ∧ y = s.d[p]!) := by
          intro i j x y h
          rcases asks _ h with h | ⟨h, g1, g2, g3⟩
          · exact .inl h
          · injection g3 with _ _ hx hy
            exact .inr ⟨⟨mid + m - 1 - h, by omega, by omega, hx⟩, h, by omega, by omega, hy⟩
        generalize turn a m b (k, s1) = s2 at t1 g sz2 tl hm
        have gi : ∀ x, s2.d[x]! = s.d[turnIx a m b k x]! := fun x => by rw [g, r3]
        have q1 : ∀ x, x < k → s2.d[x]! = s.d[x]! := fun x hx => by
          rw [gi]; unfold turnIx; rw [hmid, if_neg (by omega), if_neg (by omega)]
        have q2 : ∀ x, k ≤ x → x < mid → s2.d[x]! = s.d[x + (m - k)]! := fun x hx hx2 => by
          rw [gi]; unfold turnIx; rw [hmid, if_pos (by omega)]
        have q3 : ∀ x, mid ≤ x → x < mid + m - k → s2.d[x]! = s.d[x + k - mid]! := fun x hx hx2 => by
          rw [gi]; unfold turnIx; rw [hmid, if_neg (by omega), if_pos (by omega)]
        have q4 : ∀ x, mid + m - k ≤ x → s2.d[x]! = s.d[x]! := fun x hx => by
          rw [gi]; unfold turnIx; rw [hmid, if_neg (by omega), if_neg (by omega)]
        have t2 : Run a mid s2 (half1 lt a b k s2) := by
          unfold half1; rw [hmid]; split
          · exact symMerge_run lt _ a k mid s2 rfl (by omega) (by omega)
          · exact .refl _
        have l2 : ∀ i j x y, Ev.less i j x y ∈ (half1 lt a b k s2).log → Ev.less i j x y ∈ s.log ∨ ((∃ q, m ≤ q ∧ q < b ∧ x = s.d[q]!) ∧ ∃ p, a ≤ p ∧ p < m ∧ y = s.d[p]!) := by
          intro i j x y h
          unfold half1 at h
          rw [hmid] at h
          split at h
          · rcases ih _ (by omega) a k mid s2 rfl (by omega) (by omega) (by omega) i j x y h with h | ⟨⟨q, g1, g2, g3⟩, p, g4, g5, g6⟩
            · exact base _ _ _ _ (tl _ _ _ _ h)
            · exact .inr ⟨⟨q + (m - k), by omega, by omega, by rw [g3, q2 q g1 g2]⟩, p, g4, by omega, by rw [g6, q1 p g5]⟩
          · exact base _ _ _ _ (tl _ _ _ _ h)
        have pL := t2.perm (by rw [sz2]; omega)
        have keepR : ∀ y, mid ≤ y → (half1 lt a b k s2).d[y]! = s2.d[y]! := fun y hy => pL.2.1 y (.inr hy)
        have szL : (half1 lt a b k s2).d.size = s.d.size := by rw [t2.size, sz2]
        generalize half1 lt a b k s2 = s3 at l2 keepR szL hm
        unfold half2 at hm
        rw [hmid] at hm
        split at hm
        · rcases ih _ (by omega) mid _ b s3 rfl (by omega) (by omega) (by omega) i j x y hm with h | ⟨⟨q, g1, g2, g3⟩, p, g4, g5, g6⟩
          · exact l2 _ _ _ _ h
          · exact .inr ⟨⟨q, by omega, g2, by rw [g3, keepR q (by omega), q4 q g1]⟩, p + k - mid, by omega, by omega, by rw [g6, keepR p g4, q3 p g4 g5]⟩
        · exact l2 _ _ _ _ hm

/-- THE SORT ASKS ONLY WHETHER A LATER ENTRY COMES BEFORE AN EARLIER ONE. -/
theorem stable_asks (n : Nat) (d0 : Array α) (hn : n ≤ d0.size) : AskOk d0 n (stable lt n ⟨d0, []⟩) := by
  refine (stable_inv lt (fun a b d => Src d0 a b d) (fun s => AskOk d0 n s ∧ s.d.size = d0.size) n (Src.ext d0) ?_ (fun a b d => ∀ p, a ≤ p → p < b → d[p]! = d0[p]!)
    (fun a b d d' h he p h1 h2 => by rw [he p h1 h2]; exact h p h1 h2) ?_ ⟨d0, []⟩ hn ⟨fun i j x y h => (by cases h), rfl⟩ (fun a b _ _ p h1 h2 => rfl)).1.1
  · intro a m b s ham hmb hb hs hG hA hB
    have ri := symMerge_run lt _ a m b s rfl ham hmb
    refine ⟨⟨fun i j x y hm => ?_, by rw [ri.size]; exact hG.2⟩, ?_⟩
    · rcases symMerge_cross lt _ a m b s rfl ham hmb (by omega) i j x y hm with h | ⟨⟨q, g1, g2, g3⟩, p, g4, g5, g6⟩
      · exact hG.1 i j x y h
      · obtain ⟨q', u1, u2, u3⟩ := hB q g1 g2
        obtain ⟨p', v1, v2, v3⟩ := hA p g4 g5
        exact ⟨p', q', by omega, by omega, by rw [g6, v3], by rw [g3, u3]⟩
    · refine Src.perm (d := s.d) (fun p h1 h2 => ?_) (ri.perm (by omega)) (by omega)
      by_cases c : p < m
      · obtain ⟨p', g1, g2, g3⟩ := hA p h1 c
        exact ⟨p', g1, by omega, g3⟩
      · obtain ⟨p', g1, g2, g3⟩ := hB p (by omega) h2
        exact ⟨p', by omega, g2, g3⟩
  · intro a b s hab hb hs hG hE
    have ri := insSort_run lt a b s
    refine ⟨⟨?_, by rw [ri.size]; exact hG.2⟩, Src.perm (d := s.d) (fun p h1 h2 => ⟨p, h1, h2, hE p h1 h2⟩) (ri.perm (by omega)) (by omega)⟩
    exact insOut_asks lt d0 n a b hb _ (a + 1) s rfl (by omega) (by omega) (fun p h1 h2 => ⟨p, h1, h2, hE p h1 (by omega)⟩) (fun p h1 h2 => hE p (by omega) h2) hG.1
end Go.Proofs.Ytdpomoengbpcaaa
