/- Plain: what a run writes down: its indices are below the length; done again, its swaps give what it gave; what it was told is what the order says of the entries that stood there. -/
import Derived.Test.YtdpomoengbpcaaaListD
namespace Go.Proofs.Ytdpomoengbpcaaa
open Go.RowKit Go.Sort Go.Lib

section
variable {α : Type} [Inhabited α]
/-- The swaps of some events done on a list. -/
def repl (d : Array α) : List (Ev α) → Array α
  | [] => d
  | .less _ _ _ _ :: r => repl d r
  | .swap i j :: r => repl (swp d i j) r
/-- Events that fit a list. -/
def Told (n : Nat) (d : Array α) : List (Ev α) → Prop
  | [] => True
  | .less i j x y :: r => i < n ∧ j < n ∧ x = d[i]! ∧ y = d[j]! ∧ Told n d r
  | .swap i j :: r => i < n ∧ j < n ∧ Told n (swp d i j) r
theorem Run.told {a n : Nat} {s t : St α} (h : Run a n s t) : ∃ evs, t.log = s.log ++ evs ∧ Told n s.d evs ∧ repl s.d evs = t.d := by
  induction h with
  | refl s => exact ⟨[], by simp, trivial, rfl⟩
  | ask s s' i j h1 h2 h3 h4 _ ih =>
    obtain ⟨e, he, ht, hr⟩ := ih
    exact ⟨.less i j s.d[i]! s.d[j]! :: e, by rw [he, St.ask_log, List.append_assoc]; rfl, ⟨h2, h4, rfl, rfl, by simpa using ht⟩, by simpa [repl] using hr⟩
  | swap s s' i j h1 h2 h3 h4 _ ih =>
    obtain ⟨e, he, ht, hr⟩ := ih
    exact ⟨.swap i j :: e, by rw [he, St.swap_log, List.append_assoc]; rfl, ⟨h2, h4, by simpa using ht⟩, by simpa [repl] using hr⟩
/-- The list behind the first k calls, where the first call is for the length. -/
def stood (d : Array α) (es : List (Ev α)) (k : Nat) : Array α := repl d (es.take (k - 1))
theorem repl_append (d : Array α) (xs ys : List (Ev α)) : repl d (xs ++ ys) = repl (repl d xs) ys := by
  induction xs generalizing d with
  | nil => rfl
  | cons e r ih => cases e <;> exact ih _
theorem repl_size (d : Array α) (xs : List (Ev α)) : (repl d xs).size = d.size := by
  induction xs generalizing d with
  | nil => rfl
  | cons e r ih => cases e with
    | less i j x y => exact ih d
    | swap i j => exact (ih _).trans (size_swp _ _ _)
theorem Told.at {n : Nat} {d : Array α} {es : List (Ev α)} (h : Told n d es) : ∀ (k : Nat) (e : Ev α), es[k]? = some e →
    (∃ i j, e = .less i j (repl d (es.take k))[i]! (repl d (es.take k))[j]! ∧ i < n ∧ j < n ∧ repl d (es.take (k + 1)) = repl d (es.take k)) ∨ (∃ i j, e = .swap i j ∧ i < n ∧ j < n ∧ repl d (es.take (k + 1)) = swp (repl d (es.take k)) i j) := by
  induction es generalizing d with
  | nil => intro k e he; simp at he
  | cons e' r ih =>
    intro k e he
    cases k with
    | zero =>
      simp at he
      subst he
      cases e' with
      | less i j x y => obtain ⟨h1, h2, h3, h4, _⟩ := h; subst h3 h4; exact .inl ⟨i, j, rfl, h1, h2, rfl⟩
      | swap i j => obtain ⟨h1, h2, _⟩ := h; exact .inr ⟨i, j, rfl, h1, h2, rfl⟩
    | succ k =>
      simp at he
      cases e' with
      | less i j x y => exact ih h.2.2.2.2 k e he
      | swap i j => exact ih h.2.2 k e he
end

/-- The calls of Stable on a list of entries. -/
def callsOf (lt : It → It → Bool) (xs : List It) : List Cl := (0, 0, 0, false) :: (stable lt xs.length ⟨xs.toArray, []⟩).log.map (evC lt)
def stoodAt (lt : It → It → Bool) (xs : List It) (k : Nat) : Array It := stood xs.toArray (stable lt xs.length ⟨xs.toArray, []⟩).log k
theorem stoodAt_size (lt : It → It → Bool) (xs : List It) (k : Nat) : (stoodAt lt xs k).size = xs.length := by unfold stoodAt stood; rw [repl_size]; simp

/-- Call k, and the list around it. -/
theorem call_at (lt : It → It → Bool) (xs : List It) (k : Nat) (hk : k < (callsOf lt xs).length) :
    (k = 0 ∧ (callsOf lt xs).getD k (0, 0, 0, false) = (0, 0, 0, false) ∧ stoodAt lt xs (k + 1) = stoodAt lt xs k)
    ∨ (0 < k ∧ ∃ i j, i < xs.length ∧ j < xs.length ∧ (callsOf lt xs).getD k (0, 0, 0, false) = (1, (i : Int), (j : Int), lt (stoodAt lt xs k)[i]! (stoodAt lt xs k)[j]!) ∧ stoodAt lt xs (k + 1) = stoodAt lt xs k)
    ∨ (0 < k ∧ ∃ i j, i < xs.length ∧ j < xs.length ∧ (callsOf lt xs).getD k (0, 0, 0, false) = (2, (i : Int), (j : Int), false) ∧ stoodAt lt xs (k + 1) = swp (stoodAt lt xs k) i j) := by
  cases k with
  | zero => exact .inl ⟨rfl, rfl, rfl⟩
  | succ k =>
    right
    obtain ⟨evs, he, ht, _⟩ := (stable_run lt xs.length ⟨xs.toArray, []⟩).told
    simp only [List.nil_append] at he
    have hk' : k < evs.length := by unfold callsOf at hk; rw [he] at hk; simpa using hk
    have hg : (callsOf lt xs).getD (k + 1) (0, 0, 0, false) = evC lt evs[k] := by
      unfold callsOf; rw [he, List.getD_cons_succ, List.getD_eq_getElem?_getD, List.getElem?_map, List.getElem?_eq_getElem hk']; rfl
    have hs : ∀ q, stoodAt lt xs (q + 1) = repl xs.toArray (evs.take q) := fun q => by unfold stoodAt stood; rw [he]; rfl
    rw [hg, hs, hs]
    rcases ht.at k evs[k] (List.getElem?_eq_getElem hk') with ⟨i, j, h1, h2, h3, h4⟩ | ⟨i, j, h1, h2, h3, h4⟩
    · exact .inl ⟨by omega, i, j, h2, h3, by rw [h1]; rfl, h4⟩
    · exact .inr ⟨by omega, i, j, h2, h3, by rw [h1]; rfl, h4⟩
theorem stood_start (lt : It → It → Bool) (xs : List It) : stoodAt lt xs 0 = xs.toArray := rfl
theorem stood_end (lt : It → It → Bool) (xs : List It) : (stoodAt lt xs (callsOf lt xs).length).toList = sorted lt xs := by
  obtain ⟨evs, he, _, hr⟩ := (stable_run lt xs.length ⟨xs.toArray, []⟩).told
  simp only [List.nil_append] at he
  unfold stoodAt stood callsOf sorted
  rw [he] at *
  simp only [List.length_cons, List.length_map, Nat.add_sub_cancel, List.take_length]
  rw [hr]

theorem CallsR.at {w : World} {b n : Nat} {cs : List Cl} (h : CallsR w b 0 n cs) {i : Nat} (hi : i < n) : w.cell? ⟨b, i * 4, none⟩ = some (.int .i64 (cs.getD i (0, 0, 0, false)).1) ∧ w.cell? ⟨b, i * 4 + 1, none⟩ = some (.int .i64 (cs.getD i (0, 0, 0, false)).2.1)
    ∧ w.cell? ⟨b, i * 4 + 2, none⟩ = some (.int .i64 (cs.getD i (0, 0, 0, false)).2.2.1) ∧ w.cell? ⟨b, i * 4 + 3, none⟩ = some (.bool (cs.getD i (0, 0, 0, false)).2.2.2) := by
  have := h.2.2 i hi; rwa [Nat.zero_add] at this
end Go.Proofs.Ytdpomoengbpcaaa
