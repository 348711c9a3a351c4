/- Plain laws: the stable sort gives the one arrangement in which every entry stands behind those that come before it, and equal ones in their old order; no program in this text. -/
import Derived.Test.YtdpomoengbpcaaaLaws3
namespace Go.Proofs.Ytdpomoengbpcaaa
open Go.Sort
variable {α : Type} [Inhabited α] (lt : α → α → Bool)

/-- lt is a strict weak order of those of which C holds. -/
structure Weak (C : α → Prop) : Prop where
  asym : ∀ x y, C x → C y → lt x y = true → lt y x = false
  trans : ∀ x y z, C x → C y → C z → lt x y = true → lt y z = true → lt x z = true
  ntrans : ∀ x y z, C x → C y → C z → lt x y = false → lt y z = false → lt x z = false

/-- x stands before y in the list. -/
def Bef (l : List α) (x y : α) : Prop := ∃ p q : Nat, p < q ∧ l[p]? = some x ∧ l[q]? = some y

omit lt
section
omit [Inhabited α]
theorem Bef.mem {l : List α} {x y : α} (h : Bef l x y) : x ∈ l ∧ y ∈ l := by
  obtain ⟨p, q, _, hx, hy⟩ := h
  exact ⟨List.mem_of_getElem? hx, List.mem_of_getElem? hy⟩
theorem nodup_at {l : List α} (hn : l.Nodup) {p q : Nat} {x : α} (hp : l[p]? = some x) (hq : l[q]? = some x) : p = q := by
  obtain ⟨h1, e1⟩ := List.getElem?_eq_some_iff.1 hp
  obtain ⟨h2, e2⟩ := List.getElem?_eq_some_iff.1 hq
  exact (List.getElem_inj hn).1 (e1.trans e2.symm)
theorem Bef.trans {l : List α} (hn : l.Nodup) {x y z : α} (h : Bef l x y) (k : Bef l y z) : Bef l x z := by
  obtain ⟨p, q, h1, h2, h3⟩ := h
  obtain ⟨p', q', k1, k2, k3⟩ := k
  have := nodup_at hn h3 k2
  exact ⟨p, q', by omega, h2, k3⟩
theorem Bef.asym {l : List α} (hn : l.Nodup) {x y : α} (h : Bef l x y) (k : Bef l y x) : False := by
  obtain ⟨p, q, h1, h2, h3⟩ := h
  obtain ⟨p', q', k1, k2, k3⟩ := k
  have := nodup_at hn h3 k2
  have := nodup_at hn h2 k3
  omega
theorem Bef.total {l : List α} {x y : α} (hx : x ∈ l) (hy : y ∈ l) (hne : x ≠ y) : Bef l x y ∨ Bef l y x := by
  obtain ⟨p, hp⟩ := List.getElem?_of_mem hx
  obtain ⟨q, hq⟩ := List.getElem?_of_mem hy
  rcases Nat.lt_trichotomy p q with h | h | h
  · exact .inl ⟨p, q, h, hp, hq⟩
  · subst h; rw [hp] at hq; injection hq with e; exact absurd e hne
  · exact .inr ⟨q, p, h, hq, hp⟩
end

/-- The relation of the stable arrangement of l: x comes before y by lt, or neither comes before the other and x stands before y in l. -/
def Rl (lt : α → α → Bool) (l : List α) (x y : α) : Prop := lt x y = true ∨ (lt y x = false ∧ Bef l x y)

section
omit [Inhabited α]
variable {lt : α → α → Bool} {l : List α}
theorem Rl.asym (hw : Weak lt (· ∈ l)) (hn : l.Nodup) {x y : α} (hx : x ∈ l) (hy : y ∈ l) (h : Rl lt l x y) (k : Rl lt l y x) : False := by
  rcases h with h | h <;> rcases k with k | k
  · rw [hw.asym x y hx hy h] at k; cases k
  · rw [h] at k; cases k.1
  · rw [k] at h; cases h.1
  · exact h.2.asym hn k.2
theorem Rl.trans (hw : Weak lt (· ∈ l)) (hn : l.Nodup) {x y z : α} (hx : x ∈ l) (hy : y ∈ l) (hz : z ∈ l) (h : Rl lt l x y) (k : Rl lt l y z) : Rl lt l x z := by
  rcases h with h | ⟨h, hb⟩ <;> rcases k with k | ⟨k, kb⟩
  · exact .inl (hw.trans x y z hx hy hz h k)
  · refine .inl ?_
    cases e : lt x z with
    | true => rfl
    | false => have := hw.ntrans x z y hx hz hy e k; rw [h] at this; cases this
  · refine .inl ?_
    cases e : lt x z with
    | true => rfl
    | false => have := hw.ntrans y x z hy hx hz h e; rw [k] at this; cases this
  · exact .inr ⟨hw.ntrans z y x hz hy hx k h, hb.trans hn kb⟩
end

/-- The stable sort of a list. -/
def sortedA (lt : α → α → Bool) (xs : List α) : List α := (stable lt xs.length ⟨xs.toArray, []⟩).d.toList

theorem sortedA_perm (lt : α → α → Bool) (xs : List α) : (sortedA lt xs).Perm xs := by
  have h := (stable_run lt xs.length ⟨xs.toArray, []⟩).perm (by simp)
  have hs := h.1
  have hp := h.2.2
  have e1 : ∀ (d : Array α), d.size = xs.length → (d.extract 0 xs.length).toList = d.toList := fun d hd => by rw [← hd, Array.extract_size]
  rw [e1 _ (by rw [hs]; simp), e1 _ (by simp)] at hp
  exact hp
theorem sortedA_length (lt : α → α → Bool) (xs : List α) : (sortedA lt xs).length = xs.length := (sortedA_perm lt xs).length_eq

theorem toArray_get! (xs : List α) (p : Nat) (x : α) (h : p < xs.length) (e : xs.toArray[p]! = x) : xs[p]? = some x := by
  rw [← e, getElem!_pos xs.toArray p (by simpa using h), List.getElem?_eq_getElem h]; simp

theorem sortedA_pairwise (lt : α → α → Bool) (xs : List α) (hw : Weak lt (· ∈ xs)) (hn : xs.Nodup) : (sortedA lt xs).Pairwise (Rl lt xs) := by
  have hA := stable_asks lt xs.length xs.toArray (by simp)
  have hT : Tok lt (fun x y => x ∈ xs ∧ y ∈ xs ∧ Rl lt xs x y) (stable lt xs.length ⟨xs.toArray, []⟩).log := by
    intro i j x y hm
    obtain ⟨p, q, h1, h2, h3, h4⟩ := hA i j x y hm
    have hb : Bef xs y x := ⟨p, q, h1, toArray_get! xs p y (by omega) h3.symm, toArray_get! xs q x h2 h4.symm⟩
    exact ⟨fun e => ⟨hb.mem.2, hb.mem.1, .inl e⟩, fun e => ⟨hb.mem.1, hb.mem.2, .inr ⟨e, hb⟩⟩⟩
  have hS := stable_sorted lt (R := fun x y => x ∈ xs ∧ y ∈ xs ∧ Rl lt xs x y) (fun x y z h k => ⟨h.1, k.2.1, h.2.2.trans hw hn h.1 h.2.1 k.2.1 k.2.2⟩) xs.length ⟨xs.toArray, []⟩ (by simp) hT
  have hz := (stable_run lt xs.length ⟨xs.toArray, []⟩).size
  rw [List.pairwise_iff_getElem]
  intro i j hi hj hij
  have hj' : j < xs.length := by rw [sortedA_length] at hj; exact hj
  have := (hS i j (by omega) hij hj').2.2
  rw [getElem!_pos _ i (by rw [hz]; simp; omega), getElem!_pos _ j (by rw [hz]; simp; omega)] at this
  exact this

/-- THERE IS ONE SUCH ARRANGEMENT. -/
theorem sortedA_unique (lt : α → α → Bool) (xs r : List α) (hw : Weak lt (· ∈ xs)) (hn : xs.Nodup) (hp : r.Perm xs) (hr : r.Pairwise (Rl lt xs)) : sortedA lt xs = r := by
  have hp1 := sortedA_perm lt xs
  refine List.Perm.eq_of_pairwise (le := Rl lt xs) ?_ (sortedA_pairwise lt xs hw hn) hr (hp1.trans hp.symm)
  intro a b ha hb h k
  exact (h.asym hw hn (hp1.mem_iff.1 ha) (hp.mem_iff.1 hb) k).elim

omit [Inhabited α] in
/-- The place of an entry is the number of those that come before it. -/
theorem place_count (R : α → α → Prop) (b : α → Bool) (r : List α) (p : Nat) (x : α) (hx : r[p]? = some x) (hr : r.Pairwise R) (has : ∀ y, y ∈ r → R x y → R y x → False) (hb : ∀ y, y ∈ r → (b y = true ↔ R y x)) : r.countP b = p := by
  obtain ⟨hp, e⟩ := List.getElem?_eq_some_iff.1 hx
  have hmem : x ∈ r := List.mem_of_getElem? hx
  rw [List.pairwise_iff_getElem] at hr
  have h1 : r = r.take p ++ (x :: r.drop (p + 1)) := by
    rw [← e, List.getElem_cons_drop, List.take_append_drop]
  have c1 : (r.take p).countP b = p := by
    have : (r.take p).countP b = (r.take p).length := by
      rw [List.countP_eq_length]
      intro y hy
      obtain ⟨i, hi, hiy⟩ := List.getElem_of_mem hy
      rw [List.getElem_take] at hiy
      have hip : i < p := by rw [List.length_take] at hi; omega
      have hy' : y ∈ r := List.mem_of_mem_take hy
      rw [hb y hy', ← hiy, ← e]
      exact hr i p (by omega) hp hip
    rw [this, List.length_take]; omega
  have c2 : b x = false := by
    cases h : b x with
    | false => rfl
    | true => have := (hb x hmem).1 h; exact (has x hmem this this).elim
  have c3 : (r.drop (p + 1)).countP b = 0 := by
    rw [List.countP_eq_zero]
    intro y hy
    obtain ⟨i, hi, hiy⟩ := List.getElem_of_mem hy
    rw [List.getElem_drop] at hiy
    have hy' : y ∈ r := List.mem_of_mem_drop hy
    rw [hb y hy']
    intro h
    have hj : p + 1 + i < r.length := by rw [List.length_drop] at hi; omega
    have := hr p (p + 1 + i) hp hj (by omega)
    rw [e, hiy] at this
    exact has y hy' this h
  rw [h1, List.countP_append, List.countP_cons, c1, c2, c3]; simp
end Go.Proofs.Ytdpomoengbpcaaa
