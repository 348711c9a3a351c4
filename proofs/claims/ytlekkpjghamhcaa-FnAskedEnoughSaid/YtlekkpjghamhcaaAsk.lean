/- Plain: what the sort was told, closed by Warshall's three loops, holds of the neighbours of the result; no program in this text. -/
import Derived.Test.YtlekkpjghamhcaaTold
import Derived.Test.YtlekkpjghamhcaaPlainA
namespace Go.Proofs.Ytlekkpjghamhcaa
open Go.RowKit Go.Sort Go.Lib

/-! ### Warshall's loops on a table of m * m truth values -/
/-- Round b has done the rows below a, and of row a what lies below c. -/
def Mid (m : Nat) (F : Nat → Nat → Bool) (b a c : Nat) (f : Nat → Bool) : Prop :=
  ∀ x y, x < m → y < m → f (x * m + y) = if x < a ∨ (x = a ∧ y < c) then (F x y || (F x b && F b y)) else F x y
theorem flat_inj {m x y a c : Nat} (hy : y < m) (hc : c < m) (h : x * m + y = a * m + c) : x = a ∧ y = c := by
  have h1 : (x * m + y) / m = (a * m + c) / m := by rw [h]
  have h2 : (x * m + y) % m = (a * m + c) % m := by rw [h]
  have e1 : ∀ u v, v < m → (u * m + v) / m = u := fun u v hv => by
    rw [Nat.mul_comm, Nat.mul_add_div (by omega), Nat.div_eq_of_lt hv, Nat.add_zero]
  have e2 : ∀ u v, v < m → (u * m + v) % m = v := fun u v hv => by
    rw [Nat.mul_comm, Nat.mul_add_mod, Nat.mod_eq_of_lt hv]
  rw [e1 x y hy, e1 a c hc] at h1
  rw [e2 x y hy, e2 a c hc] at h2
  exact ⟨h1, h2⟩
theorem flat_lt {m x y : Nat} (hx : x < m) (hy : y < m) : x * m + y < m * m := by
  have : (x + 1) * m ≤ m * m := Nat.mul_le_mul_right m hx
  rw [Nat.add_mul, Nat.one_mul] at this
  omega
theorem Mid.start {m b : Nat} (f : Nat → Bool) : Mid m (fun x y => f (x * m + y)) b 0 0 f := fun x y _ _ => by
  rw [if_neg (by omega)]
theorem Mid.row {m b a : Nat} {F : Nat → Nat → Bool} {f : Nat → Bool} (h : Mid m F b a m f) : Mid m F b (a + 1) 0 f := fun x y hx hy => by
  rw [h x y hx hy]
  by_cases e : x < a ∨ (x = a ∧ y < m)
  · rw [if_pos e, if_pos (by omega)]
  · rw [if_neg e, if_neg (by omega)]
theorem Mid.none {m b a c : Nat} {F : Nat → Nat → Bool} {f : Nat → Bool} (h : Mid m F b a c f) (hF : F a b = false) : Mid m F b (a + 1) 0 f := fun x y hx hy => by
  rw [h x y hx hy]
  by_cases e : x = a
  · subst e
    rw [hF, Bool.false_and, Bool.or_false, ite_self, ite_self]
  · by_cases e2 : x < a
    · rw [if_pos (by omega), if_pos (by omega)]
    · rw [if_neg (by omega), if_neg (by omega)]
theorem Mid.col {m b a c x : Nat} {F : Nat → Nat → Bool} {f : Nat → Bool} (h : Mid m F b a c f) (hx : x < m) (hb : b < m) : f (x * m + b) = F x b := by
  rw [h x b hx hb]
  split
  · cases F x b <;> simp
  · rfl
theorem Mid.line {m b a c y : Nat} {F : Nat → Nat → Bool} {f : Nat → Bool} (h : Mid m F b a c f) (hy : y < m) (hb : b < m) : f (b * m + y) = F b y := by
  rw [h b y hb hy]
  split
  · cases F b y <;> simp
  · rfl
theorem Mid.step {m b a c : Nat} {F : Nat → Nat → Bool} {f : Nat → Bool} (h : Mid m F b a c f) (ha : a < m) (hb : b < m) (hc : c < m) (hF : F a b = true) :
    Mid m F b a (c + 1) (fun j => if j = a * m + c then (f (a * m + c) || f (b * m + c)) else f j) := fun x y hx hy => by
  show (if x * m + y = a * m + c then (f (a * m + c) || f (b * m + c)) else f (x * m + y)) = _
  by_cases e : x * m + y = a * m + c
  · obtain ⟨rfl, rfl⟩ := flat_inj hy hc e
    rw [if_pos rfl, if_pos (by omega), h.line hy hb, h x y hx hy, if_neg (by omega), hF, Bool.true_and]
  · rw [if_neg e, h x y hx hy]
    have e2 : ¬ (x = a ∧ y = c) := fun ⟨h1, h2⟩ => e (by rw [h1, h2])
    by_cases e3 : x < a ∨ (x = a ∧ y < c)
    · rw [if_pos e3, if_pos (by omega)]
    · rw [if_neg e3, if_neg (by omega)]
/-- What was told is there, and the ways over the places below b are closed. -/
def War (m b : Nat) (f0 f : Nat → Bool) : Prop :=
  (∀ j, j < m * m → f0 j = true → f j = true) ∧ ∀ v, v < b → ∀ x y, x < m → y < m → f (x * m + v) = true → f (v * m + y) = true → f (x * m + y) = true
theorem War.start (m : Nat) (f : Nat → Bool) : War m 0 f f := ⟨fun _ _ h => h, fun v hv => by omega⟩
theorem War.round {m b : Nat} {f0 f f' : Nat → Bool} (h : War m b f0 f) (hb : b < m) (hM : Mid m (fun x y => f (x * m + y)) b m 0 f') : War m (b + 1) f0 f' := by
  have e : ∀ x y, x < m → y < m → f' (x * m + y) = (f (x * m + y) || (f (x * m + b) && f (b * m + y))) := fun x y hx hy => by
    have := hM x y hx hy
    rw [if_pos (Or.inl hx)] at this
    exact this
  refine ⟨fun j hj h0 => ?_, fun v hv x y hx hy h1 h2 => ?_⟩
  · have hm : 0 < m := by omega
    have hx : j / m < m := Nat.div_lt_of_lt_mul hj
    have hy : j % m < m := Nat.mod_lt _ hm
    have ej : j / m * m + j % m = j := by rw [Nat.mul_comm]; exact Nat.div_add_mod j m
    have := e (j / m) (j % m) hx hy
    rw [ej, h.1 j hj h0, Bool.true_or] at this
    exact this
  · have hvm : v < m := by omega
    rw [e x v hx hvm] at h1
    rw [e v y hvm hy] at h2
    rw [e x y hx hy]
    simp only [Bool.or_eq_true, Bool.and_eq_true] at h1 h2 ⊢
    rcases (by omega : v < b ∨ v = b) with hvb | rfl
    · rcases h1 with h1 | ⟨h1, h3⟩
      · rcases h2 with h2 | ⟨h2, h4⟩
        · exact .inl (h.2 v hvb x y hx hy h1 h2)
        · exact .inr ⟨h.2 v hvb x b hx hb h1 h2, h4⟩
      · rcases h2 with h2 | ⟨h2, h4⟩
        · exact .inr ⟨h1, h.2 v hvb b y hb hy h3 h2⟩
        · exact .inr ⟨h1, h4⟩
    · have h1' : f (x * m + v) = true := h1.elim id (·.1)
      have h2' : f (v * m + y) = true := h2.elim id (·.2)
      exact .inr ⟨h1', h2'⟩

/-! ### What was told -/
/-- The table's place for two tags. -/
def ix (m : Nat) (x y : Int) : Nat := x.toNat * m + y.toNat
/-- The table f holds what the first k calls answered. -/
def Knows (m : Nat) (cs : List Cl) (st : Nat → Array It) (k : Nat) (f : Nat → Bool) : Prop :=
  ∀ q, q < k → ∀ (i j : Nat) (y : Bool), cs.getD q (0, 0, 0, false) = (1, (i : Int), (j : Int), y) → f (if y = true then ix m (st q)[i]!.2 (st q)[j]!.2 else ix m (st q)[j]!.2 (st q)[i]!.2) = true
theorem Knows.start (m : Nat) (cs : List Cl) (st : Nat → Array It) (f : Nat → Bool) : Knows m cs st 0 f := fun q hq => by omega
theorem Knows.skip {m k : Nat} {cs : List Cl} {st : Nat → Array It} {f : Nat → Bool} (h : Knows m cs st k f) (hk : (cs.getD k (0, 0, 0, false)).1 ≠ 1) : Knows m cs st (k + 1) f := fun q hq i j y e => by
  rcases (by omega : q < k ∨ q = k) with h1 | rfl
  · exact h q h1 i j y e
  · rw [e] at hk; exact absurd rfl hk
theorem Knows.set {m k i j : Nat} {y : Bool} {cs : List Cl} {st : Nat → Array It} {f : Nat → Bool} (h : Knows m cs st k f) (hk : cs.getD k (0, 0, 0, false) = (1, (i : Int), (j : Int), y)) (p : Nat)
    (hp : p = if y = true then ix m (st k)[i]!.2 (st k)[j]!.2 else ix m (st k)[j]!.2 (st k)[i]!.2) : Knows m cs st (k + 1) (fun j => if j = p then true else f j) := fun q hq i' j' y' e => by
  show (if _ = p then true else f _) = true
  rcases (by omega : q < k ∨ q = k) with h1 | rfl
  · rw [h q h1 i' j' y' e, ite_self]
  · rw [hk] at e
    injection e with _ e
    injection e with e1 e
    injection e with e2 e3
    have e1 : i = i' := by omega
    have e2 : j = j' := by omega
    subst e1 e2 e3
    rw [if_pos hp.symm]

section
variable {α : Type} [Inhabited α]
theorem repl_src {n : Nat} {es : List (Ev α)} : ∀ {d : Array α}, n ≤ d.size → Told n d es → ∀ k p, p < n → ∃ q, q < n ∧ (repl d (es.take k))[p]! = d[q]! := by
  induction es with
  | nil => intro d _ _ k p hp; exact ⟨p, hp, by rw [List.take_nil]; rfl⟩
  | cons e r ih =>
    intro d hd ht k p hp
    cases k with
    | zero => exact ⟨p, hp, rfl⟩
    | succ k =>
      cases e with
      | less i j x y => exact ih hd ht.2.2.2.2 k p hp
      | swap i j =>
        obtain ⟨hi, hj, ht⟩ := ht
        obtain ⟨q, hq, h⟩ := ih (d := swp d i j) (by rw [size_swp]; exact hd) ht k p hp
        rw [List.take_succ_cons]
        show ∃ q, q < n ∧ (repl (swp d i j) (r.take k))[p]! = d[q]!
        rw [h]
        have h2 := swp_get d (show i < d.size by omega) (show j < d.size by omega) q
        rw [h2]
        split
        · exact ⟨_, by first | exact hi | exact hj, rfl⟩
        · split
          · exact ⟨_, by first | exact hi | exact hj, rfl⟩
          · exact ⟨q, hq, rfl⟩
end
theorem stood_mem (lt : It → It → Bool) (xs : List It) (k i : Nat) (hi : i < xs.length) : (stoodAt lt xs k)[i]! ∈ xs := by
  obtain ⟨evs, he, ht, _⟩ := (stable_run lt xs.length ⟨xs.toArray, []⟩).told
  simp only [List.nil_append] at he
  obtain ⟨q, hq, h⟩ := repl_src (d := xs.toArray) (by simp) ht (k - 1) i hi
  have : (stoodAt lt xs k)[i]! = xs.toArray[q]! := by unfold stoodAt stood; rw [he]; exact h
  rw [this]
  simp [hq]
/-- The tags of what stands anywhere are below the length. -/
theorem stood_tag (lt : It → It → Bool) (ks : List Int) (k i : Nat) (hi : i < (ents ks).length) : ∃ t : Nat, t < ks.length ∧ (stoodAt lt (ents ks) k)[i]!.2 = (t : Int) := by
  obtain ⟨t, ht, e⟩ := ents_mem (stood_mem lt (ents ks) k i hi)
  exact ⟨t, ht, by rw [e]⟩
theorem getD_arr (l : List It) (p : Nat) (h : p < l.length) : l.toArray[p]! = l.getD p (0, 0) := by
  simp [h, List.getD_eq_getElem?_getD]

/-- WHAT WAS ASKED IS ENOUGH: of every two neighbours of the result the closed table says that they stand so. -/
theorem asked_enough (lt : It → It → Bool) (ks : List Int) (f0 f : Nat → Bool) (hK : Knows ks.length (callsOf lt (ents ks)) (stoodAt lt (ents ks)) (callsOf lt (ents ks)).length f0) (hW : War ks.length ks.length f0 f) (p : Nat) (hp : p + 1 < ks.length) :
    ∃ x y : Nat, x < ks.length ∧ y < ks.length ∧ ((sorted lt (ents ks)).getD p (0, 0)).2 = (x : Int) ∧ ((sorted lt (ents ks)).getD (p + 1) (0, 0)).2 = (y : Int) ∧ f (x * ks.length + y) = true := by
  obtain ⟨evs, he, ht, hr⟩ := (stable_run lt (ents ks).length ⟨(ents ks).toArray, []⟩).told
  simp only [List.nil_append] at he
  have hs : ∀ q, stoodAt lt (ents ks) (q + 1) = repl (ents ks).toArray (evs.take q) := fun q => by unfold stoodAt stood; rw [he]; rfl
  have hg : ∀ q (hq : q < evs.length), (callsOf lt (ents ks)).getD (q + 1) (0, 0, 0, false) = evC lt evs[q] := fun q hq => by
    unfold callsOf; rw [he, List.getD_cons_succ, List.getD_eq_getElem?_getD, List.getElem?_map, List.getElem?_eq_getElem hq]; rfl
  have hl : (callsOf lt (ents ks)).length = evs.length + 1 := by unfold callsOf; rw [he]; simp
  have key : SortR (fun x y : It => ∃ a b : Nat, a < ks.length ∧ b < ks.length ∧ x.2 = (a : Int) ∧ y.2 = (b : Int) ∧ f (a * ks.length + b) = true) 0 (ents ks).length (stable lt (ents ks).length ⟨(ents ks).toArray, []⟩).d := by
    refine stable_sorted lt ?_ (ents ks).length _ (by simp) ?_
    · rintro x y z ⟨a, b, ha, hb, h1, h2, h3⟩ ⟨b', c, hb', hc, h4, h5, h6⟩
      obtain rfl : b = b' := by omega
      exact ⟨a, c, ha, hc, h1, h5, hW.2 b hb a c ha hc h3 h6⟩
    · intro i j x y hm
      rw [he] at hm
      obtain ⟨q, hq, e⟩ := List.getElem_of_mem hm
      rcases ht.at q evs[q] (List.getElem?_eq_getElem hq) with ⟨i', j', h1, h2, h3, _⟩ | ⟨i', j', h1, _⟩
      · have h0 : Ev.less i j x y = Ev.less i' j' (repl (ents ks).toArray (evs.take q))[i']! (repl (ents ks).toArray (evs.take q))[j']! := e.symm.trans h1
        injection h0 with e1 e2 e3 e4
        subst e1 e2
        obtain ⟨a, ha, ea⟩ := stood_tag lt ks (q + 1) i h2
        obtain ⟨b, hb, eb⟩ := stood_tag lt ks (q + 1) j h3
        have hc : (callsOf lt (ents ks)).getD (q + 1) (0, 0, 0, false) = (1, (i : Int), (j : Int), lt x y) := by rw [hg q hq, e]; rfl
        have hk := hK (q + 1) (by omega) i j (lt x y) hc
        rw [ea, eb] at hk
        rw [hs] at ea eb
        rw [← e3] at ea
        rw [← e4] at eb
        unfold ix at hk
        simp only [Int.toNat_natCast] at hk
        refine ⟨fun hy => ?_, fun hy => ?_⟩
        · rw [if_pos hy] at hk
          exact ⟨a, b, ha, hb, ea, eb, hW.1 _ (flat_lt ha hb) hk⟩
        · rw [if_neg (by rw [hy]; simp)] at hk
          exact ⟨b, a, hb, ha, eb, ea, hW.1 _ (flat_lt hb ha) hk⟩
      · rw [e] at h1; cases h1
  have hlen : (sorted lt (ents ks)).length = ks.length := by
    rw [← stood_end lt (ents ks), Array.length_toList, stoodAt_size, ents_length]
  obtain ⟨a, b, ha, hb, h1, h2, h3⟩ := key p (p + 1) (by omega) (by omega) (by rw [ents_length]; exact hp)
  have e1 : ∀ q, q < ks.length → (stable lt (ents ks).length ⟨(ents ks).toArray, []⟩).d[q]! = (sorted lt (ents ks)).getD q (0, 0) := fun q hq => by
    rw [← getD_arr _ _ (by rw [hlen]; exact hq)]
    unfold sorted
    rfl
  rw [e1 p (by omega)] at h1
  rw [e1 (p + 1) hp] at h2
  exact ⟨a, b, ha, hb, h1, h2, h3⟩
end Go.Proofs.Ytlekkpjghamhcaa
