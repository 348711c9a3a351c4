/- Plain laws for the roads: what the one stable arrangement of a list has to do with those of other lists; no program in this text. -/
import Derived.Test.YtdpomoengbpcaaaStab
import Derived.Test.YtdpomoengbpcaaaStay
namespace Go.Proofs.Ytdpomoengbpcaaa
open Go.Sort
variable {α : Type}

section
variable {l l' xs ys : List α} {x y a : α}
theorem bef_cons : Bef (a :: l) x y ↔ (a = x ∧ y ∈ l) ∨ Bef l x y := by
  constructor
  · rintro ⟨p, q, h1, h2, h3⟩
    cases p with
    | zero =>
      cases q with
      | zero => omega
      | succ q => left; simp at h2 h3; exact ⟨h2, List.mem_of_getElem? h3⟩
    | succ p =>
      cases q with
      | zero => omega
      | succ q => right; simp at h2 h3; exact ⟨p, q, by omega, h2, h3⟩
  · rintro (⟨h1, h2⟩ | ⟨p, q, h1, h2, h3⟩)
    · obtain ⟨q, hq⟩ := List.getElem?_of_mem h2
      exact ⟨0, q + 1, by omega, by simp [h1], by simpa using hq⟩
    · exact ⟨p + 1, q + 1, by omega, by simpa using h2, by simpa using h3⟩
theorem not_bef_nil : ¬ Bef ([] : List α) x y := by rintro ⟨p, q, _, h, _⟩; simp at h
theorem bef_append : Bef (l ++ l') x y ↔ Bef l x y ∨ (x ∈ l ∧ y ∈ l') ∨ Bef l' x y := by
  induction l with
  | nil => simp [not_bef_nil]
  | cons a r ih =>
    rw [List.cons_append, bef_cons, bef_cons, ih]
    constructor
    · rintro (⟨h1, h2⟩ | h | ⟨h1, h2⟩ | h)
      · rcases List.mem_append.1 h2 with h | h
        · exact .inl (.inl ⟨h1, h⟩)
        · exact .inr (.inl ⟨by simp [h1], h⟩)
      · exact .inl (.inr h)
      · exact .inr (.inl ⟨by simp [h1], h2⟩)
      · exact .inr (.inr h)
    · rintro ((⟨h1, h2⟩ | h) | ⟨h1, h2⟩ | h)
      · exact .inl ⟨h1, by simp [h2]⟩
      · exact .inr (.inl h)
      · rcases List.mem_cons.1 h1 with h | h
        · exact .inl ⟨h.symm, by simp [h2]⟩
        · exact .inr (.inr (.inl ⟨h, h2⟩))
      · exact .inr (.inr (.inr h))
theorem bef_reverse : Bef l.reverse x y ↔ Bef l y x := by
  induction l with
  | nil => simp [not_bef_nil]
  | cons a r ih =>
    rw [List.reverse_cons, bef_append, ih, bef_cons (a := a) (l := r)]
    constructor
    · rintro (h | ⟨h1, h2⟩ | h)
      · exact .inr h
      · exact .inl ⟨(show y = a by simpa using h2).symm, by simpa using h1⟩
      · rcases bef_cons.1 h with ⟨_, h⟩ | h
        · simp at h
        · exact absurd h not_bef_nil
    · rintro (⟨h1, h2⟩ | h)
      · exact .inr (.inl ⟨by simpa using h2, by simp [h1]⟩)
      · exact .inl h
theorem bef_sublist (hs : ys.Sublist xs) (h : Bef ys x y) : Bef xs x y := by
  induction hs with
  | slnil => exact h
  | cons a _ ih => exact bef_cons.2 (.inr (ih h))
  | cons_cons a s ih =>
    rcases bef_cons.1 h with ⟨h1, h2⟩ | h
    · exact bef_cons.2 (.inl ⟨h1, s.subset h2⟩)
    · exact bef_cons.2 (.inr (ih h))
theorem bef_map {β : Type} (f : α → β) (h : Bef l x y) : Bef (l.map f) (f x) (f y) := by
  obtain ⟨p, q, h1, h2, h3⟩ := h
  exact ⟨p, q, h1, by rw [List.getElem?_map, h2]; rfl, by rw [List.getElem?_map, h3]; rfl⟩
theorem pairwise_bef {R : α → α → Prop} (h : l.Pairwise R) (hb : Bef l x y) : R x y := by
  obtain ⟨p, q, h1, h2, h3⟩ := hb
  obtain ⟨hp, e1⟩ := List.getElem?_eq_some_iff.1 h2
  obtain ⟨hq, e2⟩ := List.getElem?_eq_some_iff.1 h3
  rw [← e1, ← e2]
  exact List.pairwise_iff_getElem.1 h p q hp hq h1
end

variable [Inhabited α] {lt lt' : α → α → Bool} {xs ys : List α}
omit [Inhabited α] in
theorem Weak.sub {C D : α → Prop} (h : Weak lt C) (hd : ∀ x, D x → C x) : Weak lt D :=
  ⟨fun x y hx hy => h.asym x y (hd x hx) (hd y hy), fun x y z hx hy hz => h.trans x y z (hd x hx) (hd y hy) (hd z hz), fun x y z hx hy hz => h.ntrans x y z (hd x hx) (hd y hy) (hd z hz)⟩
theorem mem_sortedA {x : α} : x ∈ sortedA lt xs ↔ x ∈ xs := (sortedA_perm lt xs).mem_iff
theorem sortedA_nodup (hn : xs.Nodup) : (sortedA lt xs).Nodup := (sortedA_perm lt xs).nodup_iff.2 hn
omit [Inhabited α] in
theorem Rl.le {l : List α} {x y : α} (hw : Weak lt (· ∈ xs)) (hx : x ∈ xs) (hy : y ∈ xs) (h : Rl lt l x y) : lt y x = false := by
  rcases h with h | h
  · exact hw.asym x y hx hy h
  · exact h.1
/-- What is sorted is in order. -/
theorem sortedA_asc (hw : Weak lt (· ∈ xs)) (hn : xs.Nodup) : (sortedA lt xs).Pairwise fun x y => lt y x = false :=
  (sortedA_pairwise lt xs hw hn).imp_of_mem fun hx hy h => h.le hw (mem_sortedA.1 hx) (mem_sortedA.1 hy)
/-- A list in order stays as it is. -/
theorem sortedA_kept (h : ys.Pairwise fun x y => lt y x = false) : sortedA lt ys = ys := by
  have hA : Asc lt ys.length ys.toArray := fun p q hpq hq => by
    have := List.pairwise_iff_getElem.1 h p q (by omega) hq hpq
    rw [getElem!_pos _ p (by simp; omega), getElem!_pos _ q (by simp; omega)]
    simpa using this
  have := (stable_stays ys.length ⟨ys.toArray, []⟩ hA).1
  unfold sortedA
  rw [this]
/-- To sort what is sorted changes nothing. -/
theorem sortedA_twice (hw : Weak lt (· ∈ xs)) (hn : xs.Nodup) : sortedA lt (sortedA lt xs) = sortedA lt xs := sortedA_kept (sortedA_asc hw hn)
/-- Where nothing comes before anything nothing moves. -/
theorem sortedA_equal (h : ∀ x y, lt x y = false) : sortedA lt xs = xs := sortedA_kept (List.pairwise_iff_getElem.2 fun _ _ _ _ _ => h _ _)
/-- Another list of the same entries, in which equal ones stand as they stood. -/
theorem sortedA_same (hw : Weak lt (· ∈ xs)) (hn : xs.Nodup) (hp : ys.Perm xs) (h : ∀ x y, lt x y = false → lt y x = false → Bef xs x y → Bef ys x y) : sortedA lt ys = sortedA lt xs := by
  refine sortedA_unique lt ys _ (hw.sub fun x hx => hp.mem_iff.1 hx) (hp.nodup_iff.2 hn) ((sortedA_perm lt xs).trans hp.symm) ?_
  refine (sortedA_pairwise lt xs hw hn).imp fun {x y} hr => ?_
  rcases hr with hr | ⟨h1, h2⟩
  · exact .inl hr
  · cases e : lt x y with
    | true => exact .inl e
    | false => exact .inr ⟨h1, h x y e h1 h2⟩
/-- Blocks may be sorted first. -/
theorem sortedA_blocks {l1 l2 : List α} (hw : Weak lt (· ∈ l1 ++ l2)) (hn : (l1 ++ l2).Nodup) : sortedA lt (sortedA lt l1 ++ sortedA lt l2) = sortedA lt (l1 ++ l2) := by
  have hn1 := (List.nodup_append.1 hn).1
  have hn2 := (List.nodup_append.1 hn).2.1
  refine sortedA_same hw hn ((sortedA_perm lt l1).append (sortedA_perm lt l2)) fun x y h1 h2 hb => ?_
  have key : ∀ l : List α, (∀ x, x ∈ l → x ∈ l1 ++ l2) → l.Nodup → Bef l x y → Bef (sortedA lt l) x y := fun l hl hnl hb => by
    have hm := hb.mem
    have hne : x ≠ y := fun e => by subst e; exact hb.asym hnl hb
    rcases Bef.total (mem_sortedA.2 hm.1) (mem_sortedA.2 hm.2) hne with h | h
    · exact h
    · rcases pairwise_bef (sortedA_pairwise lt l (hw.sub hl) hnl) h with h | h
      · rw [h2] at h; cases h
      · exact (hb.asym hnl h.2).elim
  rcases bef_append.1 hb with h | ⟨h, k⟩ | h
  · exact bef_append.2 (.inl (key l1 (fun x hx => by simp [hx]) hn1 h))
  · exact bef_append.2 (.inr (.inl ⟨mem_sortedA.2 h, mem_sortedA.2 k⟩))
  · exact bef_append.2 (.inr (.inr (key l2 (fun x hx => by simp [hx]) hn2 h)))
/-- By one order, then by another one. -/
theorem sortedA_two {ltB : α → α → Bool} (hT : Weak lt (· ∈ xs)) (hU : Weak lt' (· ∈ xs)) (hB : Weak ltB (· ∈ xs)) (hn : xs.Nodup)
    (h : ∀ x y, x ∈ xs → y ∈ xs → (ltB x y = true ↔ lt' x y = true ∨ (lt' x y = false ∧ lt' y x = false ∧ lt x y = true))) : sortedA lt' (sortedA lt xs) = sortedA ltB xs := by
  refine sortedA_unique lt' _ _ (hU.sub fun x hx => mem_sortedA.1 hx) (sortedA_nodup hn) ((sortedA_perm ltB xs).trans (sortedA_perm lt xs).symm) ?_
  have hnB : (sortedA ltB xs).Nodup := sortedA_nodup hn
  refine ((sortedA_pairwise ltB xs hB hn).and hnB).imp_of_mem fun {x y} hx hy hr => ?_
  obtain ⟨hr, hne⟩ := hr
  have hx' := mem_sortedA.1 hx
  have hy' := mem_sortedA.1 hy
  have tot : ¬ Rl lt xs y x → Bef (sortedA lt xs) x y := fun hno => by
    rcases Bef.total (l := sortedA lt xs) (mem_sortedA.2 hx') (mem_sortedA.2 hy') hne with h | h
    · exact h
    · exact (hno (pairwise_bef (sortedA_pairwise lt xs hT hn) h)).elim
  have hle : ltB y x = false := hr.le hB hx' hy'
  have hUle : lt' y x = false := by
    cases e : lt' y x with
    | false => rfl
    | true => have := (h y x hy' hx').2 (.inl e); rw [hle] at this; cases this
  cases e : lt' x y with
  | true => exact .inl e
  | false =>
    refine .inr ⟨hUle, tot ?_⟩
    rcases hr with hr | ⟨h1, h2⟩
    · rcases (h x y hx' hy').1 hr with k | k
      · rw [e] at k; cases k
      · rintro (j | j)
        · rw [hT.asym y x hy' hx' j] at k; cases k.2.2
        · rw [k.2.2] at j; cases j.1
    · rintro (j | j)
      · have := (h y x hy' hx').2 (.inr ⟨hUle, e, j⟩); rw [h1] at this; cases this
      · exact h2.asym hn j.2
/-- From the end to the beginning, by the opposite order. -/
theorem sortedA_turned (hw : Weak lt (· ∈ xs)) (hw' : Weak lt' (· ∈ xs)) (hn : xs.Nodup) (h : ∀ x y, x ∈ xs → y ∈ xs → lt' x y = lt y x) : (sortedA lt' xs.reverse).reverse = sortedA lt xs := by
  refine (sortedA_unique lt xs _ hw hn ((List.reverse_perm _).trans ((sortedA_perm lt' _).trans (List.reverse_perm _))) ?_).symm
  rw [List.pairwise_reverse]
  refine (sortedA_pairwise lt' xs.reverse (hw'.sub fun x hx => by simpa using hx) ((List.reverse_perm xs).nodup_iff.2 hn)).imp_of_mem fun {x y} hx hy hr => ?_
  have hx' : x ∈ xs := by simpa using mem_sortedA.1 hx
  have hy' : y ∈ xs := by simpa using mem_sortedA.1 hy
  rcases hr with hr | ⟨h1, h2⟩
  · exact .inl (by rw [← h x y hx' hy']; exact hr)
  · exact .inr ⟨by rw [← h y x hy' hx']; exact h1, bef_reverse.1 h2⟩
/-- Some of the entries. -/
theorem sortedA_some (hw : Weak lt (· ∈ xs)) (hn : xs.Nodup) (p : α → Bool) : sortedA lt (xs.filter p) = (sortedA lt xs).filter p := by
  have hnf : (xs.filter p).Nodup := hn.filter p
  refine sortedA_unique lt _ _ (hw.sub fun x hx => (List.mem_filter.1 hx).1) hnf ((sortedA_perm lt xs).filter p) ?_
  have h1 := ((sortedA_pairwise lt xs hw hn).and (sortedA_nodup hn)).filter p
  refine h1.imp_of_mem fun {x y} hx hy hr => ?_
  obtain ⟨hr, hne⟩ := hr
  rcases hr with hr | ⟨h1, h2⟩
  · exact .inl hr
  · refine .inr ⟨h1, ?_⟩
    have hx' := List.mem_filter.1 hx
    have hy' := List.mem_filter.1 hy
    rcases Bef.total (l := xs.filter p) (List.mem_filter.2 ⟨mem_sortedA.1 hx'.1, hx'.2⟩) (List.mem_filter.2 ⟨mem_sortedA.1 hy'.1, hy'.2⟩) hne with h | h
    · exact h
    · exact (h2.asym hn (bef_sublist List.filter_sublist h)).elim
/-- Entries under other names. -/
theorem sortedA_map {β : Type} [Inhabited β] {ltB : β → β → Bool} (f : α → β) (hw : Weak lt (· ∈ xs)) (hn : xs.Nodup) (hwB : Weak ltB (· ∈ xs.map f)) (hnB : (xs.map f).Nodup) (h : ∀ x y, x ∈ xs → y ∈ xs → ltB (f x) (f y) = lt x y) :
    sortedA ltB (xs.map f) = (sortedA lt xs).map f := by
  refine sortedA_unique ltB _ _ hwB hnB ((sortedA_perm lt xs).map f) ?_
  rw [List.pairwise_map]
  refine (sortedA_pairwise lt xs hw hn).imp_of_mem fun {x y} hx hy hr => ?_
  have hx' := mem_sortedA.1 hx
  have hy' := mem_sortedA.1 hy
  rcases hr with hr | ⟨h1, h2⟩
  · exact .inl (by rw [h x y hx' hy']; exact hr)
  · exact .inr ⟨by rw [h y x hy' hx']; exact h1, bef_map f h2⟩
omit [Inhabited α] in
/-- Of a list in which what has q stands ahead: the first ones, as many as have q, have it, the others have not. -/
theorem take_countP (q : α → Bool) : ∀ (a : List α), a.Pairwise (fun x y => q y = true → q x = true) → (∀ x ∈ a.take (a.countP q), q x = true) ∧ (∀ x ∈ a.drop (a.countP q), q x = false)
  | [], _ => by simp
  | x :: r, h => by
    rw [List.pairwise_cons] at h
    have ih := take_countP q r h.2
    cases e : q x with
    | true =>
      rw [List.countP_cons_of_pos e, List.take_succ_cons, List.drop_succ_cons]
      exact ⟨fun y hy => by rcases List.mem_cons.1 hy with rfl | hy
                            · exact e
                            · exact ih.1 y hy, ih.2⟩
    | false =>
      have hall : ∀ y ∈ r, q y = false := fun y hy => by
        cases e' : q y with
        | false => rfl
        | true => rw [h.1 y hy e'] at e; cases e
      have h0 : r.countP q = 0 := List.countP_eq_zero.2 fun y hy => by simp [hall y hy]
      rw [List.countP_cons_of_neg (by simp [e]), h0]
      exact ⟨by simp, fun y hy => by rcases List.mem_cons.1 (by simpa using hy) with rfl | hy
                                     · exact e
                                     · exact hall y hy⟩
omit [Inhabited α] in
theorem perm_put (a : List α) (k : Nat) (z : α) : (a.take k ++ z :: a.drop k).Perm (z :: a) := by
  refine List.perm_middle.trans ?_
  rw [List.take_append_drop]
/-- An entry put in: what the arrangement is, from where those are that come before it. -/
theorem sortedA_put {l : List α} {z : α} (hl : l.Perm (z :: xs)) (hw : Weak lt (· ∈ z :: xs)) (hn : (z :: xs).Nodup) (q : α → Bool) (hq : ∀ x y, x ∈ xs → y ∈ xs → lt y x = false → q y = true → q x = true)
    (hb : ∀ x y, Bef xs x y → Bef l x y) (h1 : ∀ x ∈ xs, q x = true → Rl lt l x z) (h2 : ∀ x ∈ xs, q x = false → Rl lt l z x) :
    sortedA lt l = (sortedA lt xs).take (xs.countP q) ++ z :: (sortedA lt xs).drop (xs.countP q) := by
  have hwx : Weak lt (· ∈ xs) := hw.sub fun x hx => List.mem_cons_of_mem _ hx
  have hnx : xs.Nodup := (List.nodup_cons.1 hn).2
  refine sortedA_unique lt l _ (hw.sub fun x hx => hl.mem_iff.1 hx) (hl.nodup_iff.2 hn) (((perm_put _ _ z).trans ((sortedA_perm lt xs).cons z)).trans hl.symm) ?_
  rw [← (sortedA_perm lt xs).countP_eq q]
  have hp := sortedA_pairwise lt xs hwx hnx
  have hR : (sortedA lt xs).Pairwise (Rl lt l) := hp.imp fun {x y} hr => by
    rcases hr with hr | ⟨k1, k2⟩
    · exact .inl hr
    · exact .inr ⟨k1, hb x y k2⟩
  have ht := take_countP q (sortedA lt xs) ((sortedA_asc hwx hnx).imp_of_mem fun hx hy h => hq _ _ (mem_sortedA.1 hx) (mem_sortedA.1 hy) h)
  rw [← List.take_append_drop ((sortedA lt xs).countP q) (sortedA lt xs)] at hR
  obtain ⟨r1, r2, r3⟩ := List.pairwise_append.1 hR
  refine List.pairwise_append.2 ⟨r1, List.pairwise_cons.2 ⟨fun y hy => h2 y (mem_sortedA.1 (List.mem_of_mem_drop hy)) (ht.2 y hy), r2⟩, fun x hx y hy => ?_⟩
  rcases List.mem_cons.1 hy with rfl | hy
  · exact h1 x (mem_sortedA.1 (List.mem_of_mem_take hx)) (ht.1 x hx)
  · exact r3 x hx y hy
/-- An entry added at the end. -/
theorem sortedA_end {z : α} (hw : Weak lt (· ∈ z :: xs)) (hn : (z :: xs).Nodup) :
    sortedA lt (xs ++ [z]) = (sortedA lt xs).take (xs.countP fun x => !lt z x) ++ z :: (sortedA lt xs).drop (xs.countP fun x => !lt z x) := by
  refine sortedA_put (List.perm_append_singleton z xs) hw hn _ (fun x y hx hy h1 h2 => ?_) (fun x y h => bef_append.2 (.inl h)) (fun x hx h => .inr ⟨by simpa using h, bef_append.2 (.inr (.inl ⟨hx, by simp⟩))⟩) (fun x hx h => .inl (by simpa using h))
  have h2' : lt z y = false := by simpa using h2
  have := hw.ntrans z y x (by simp) (by simp [hy]) (by simp [hx]) h2' h1
  simpa using this
/-- .. at the beginning. -/
theorem sortedA_begin {z : α} (hw : Weak lt (· ∈ z :: xs)) (hn : (z :: xs).Nodup) :
    sortedA lt (z :: xs) = (sortedA lt xs).take (xs.countP fun x => lt x z) ++ z :: (sortedA lt xs).drop (xs.countP fun x => lt x z) := by
  refine sortedA_put (List.Perm.refl _) hw hn _ (fun x y hx hy h1 h2 => ?_) (fun x y h => bef_cons.2 (.inr h)) (fun x hx h => .inl h) (fun x hx h => .inr ⟨h, bef_cons.2 (.inl ⟨rfl, hx⟩)⟩)
  cases e : lt x z with
  | true => rfl
  | false => have := hw.ntrans y x z (by simp [hy]) (by simp [hx]) (by simp) h1 e; rw [h2] at this; cases this
end Go.Proofs.Ytdpomoengbpcaaa
