/- Words for slices that are read; walks of impl.number, spec.Sign and the comparison that StableFunc hands on. -/
import Derived.Test.YtdpomoengbpcaaaCmpF
namespace Go.Proofs.Ytdpomoengbpcaaa
open Go.RowKit Go.Sort Go.Lib

/-- The slice value '.slice A n c' reads as the numbers zs (nil let in). -/
def IntsR (w : World) (A : Option Addr) (n : Nat) (zs : List Int) : Prop :=
  zs.length = n ∧ (0 < n → ∃ b o, A = some ⟨b, o, none⟩ ∧ b < w.heap.size ∧ ∀ i, i < n → w.cell? ⟨b, o + i, none⟩ = some (.int .i64 (zs.getD i 0)))
/-- The slice value '.slice (some ⟨b, o, none⟩) n c' reads as the entries xs. -/
def ItemsR (w : World) (b o n : Nat) (xs : List It) : Prop :=
  xs.length = n ∧ b < w.heap.size ∧ ∀ i, i < n → w.cell? ⟨b, o + i * 2, none⟩ = some (.int .i64 (xs.getD i (0, 0)).1) ∧ w.cell? ⟨b, o + i * 2 + 1, none⟩ = some (.int .i64 (xs.getD i (0, 0)).2)

section
variable {w w' : World} {A : Option Addr} {n b o base c : Nat} {zs : List Int} {xs : List It}
theorem IntsR.keep (h : IntsR w A n zs) (hs : w.heap.size ≤ w'.heap.size) (hk : ∀ p : Addr, p.block < w.heap.size → w'.cell? p = w.cell? p) : IntsR w' A n zs :=
  ⟨h.1, fun hn => by
    obtain ⟨b, o, e, hb, hc⟩ := h.2 hn
    exact ⟨b, o, e, Nat.lt_of_lt_of_le hb hs, fun i hi => (hk _ hb).trans (hc i hi)⟩⟩
theorem ItemsR.keep (h : ItemsR w b o n xs) (hs : w.heap.size ≤ w'.heap.size) (hk : ∀ p : Addr, p.block < w.heap.size → w'.cell? p = w.cell? p) : ItemsR w' b o n xs :=
  ⟨h.1, Nat.lt_of_lt_of_le h.2.1 hs, fun i hi => ⟨(hk _ h.2.1).trans (h.2.2 i hi).1, (hk _ h.2.1).trans (h.2.2 i hi).2⟩⟩
theorem IntsR.below (h : IntsR w A n zs) (hb : Below w.heap.size w w') : IntsR w' A n zs := h.keep hb.size fun _ hp => hb.cell hp
theorem ItemsR.below (h : ItemsR w b o n xs) (hb : Below w.heap.size w w') : ItemsR w' b o n xs := h.keep hb.size fun _ hp => hb.cell hp
theorem IntsR.alloc (h : IntsR w A n zs) (o : Obj) : IntsR (w.alloc o) A n zs := h.below ((Below.refl _ _).alloc (Nat.le_refl _) o)
theorem ItemsR.alloc (h : ItemsR w b o n xs) (ob : Obj) : ItemsR (w.alloc ob) b o n xs := h.below ((Below.refl _ _).alloc (Nat.le_refl _) ob)

/-- The cells of a list of entries. -/
def flatI (xs : List It) : List Value := xs.flatMap encI
theorem flatI_length (xs : List It) : (flatI xs).length = xs.length * 2 := by
  induction xs with
  | nil => rfl
  | cons x r ih => simp only [flatI, List.flatMap_cons, List.length_append, encI_length, List.length_cons] at ih ⊢; omega
theorem flatI_at : ∀ (xs : List It) (i : Nat), i < xs.length → (flatI xs)[i * 2]? = some (.int .i64 (xs.getD i (0, 0)).1) ∧ (flatI xs)[i * 2 + 1]? = some (.int .i64 (xs.getD i (0, 0)).2)
  | [], i, h => by simp at h
  | x :: r, 0, _ => by simp [flatI, encI]
  | x :: r, i + 1, h => by
    have ih := flatI_at r i (by simpa using h)
    have e : (i + 1) * 2 = i * 2 + 1 + 1 := by omega
    simp only [flatI, List.flatMap_cons, encI, List.cons_append, List.nil_append, e, List.getElem?_cons_succ, List.getD_cons_succ] at ih ⊢
    exact ih
theorem flatI_one (xs : List It) : ∀ u ∈ flatI xs, u.oneCell' = true := by
  intro u hu
  obtain ⟨x, _, hx⟩ := List.mem_flatMap.1 hu
  exact encI_one x u hx
theorem flatI_append (xs ys : List It) : flatI xs ++ flatI ys = flatI (xs ++ ys) := by simp [flatI]

/-- The slice value '.slice (some ⟨b, 0, none⟩) n c', n the number of the entries xs, is a row of the call's own (from block base on) that holds xs. -/
def OwnI (w : World) (base b c : Nat) (xs : List It) : Prop := w.ownsRow base 35 2 (.slice (some ⟨b, 0, none⟩) xs.length c) xs.length (flatI xs)
/-- .. the numbers zs. -/
def OwnZ (w : World) (base b c : Nat) (zs : List Int) : Prop := w.ownsRow base 3 1 (.slice (some ⟨b, 0, none⟩) zs.length c) zs.length (zs.map (Value.int .i64))

theorem OwnI.lt (h : OwnI w base b c xs) : base ≤ b ∧ b < w.heap.size := World.ownsRow.lt h b rfl
theorem OwnZ.lt (h : OwnZ w base b c zs) : base ≤ b ∧ b < w.heap.size := World.ownsRow.lt h b rfl
theorem OwnI.items (h : OwnI w base b c xs) : ItemsR w b 0 xs.length xs :=
  ⟨rfl, h.lt.2, fun i hi => by
    have e1 := World.ownsRow.cellAt h (i * 2) (by omega)
    have e2 := World.ownsRow.cellAt h (i * 2 + 1) (by omega)
    rw [(flatI_at xs i hi).1] at e1
    rw [(flatI_at xs i hi).2] at e2
    rw [Nat.zero_add]
    exact ⟨e1, e2⟩⟩
theorem OwnZ.ints (h : OwnZ w base b c zs) : IntsR w (some ⟨b, 0, none⟩) zs.length zs :=
  ⟨rfl, fun _ => ⟨b, 0, rfl, h.lt.2, fun i hi => by
    have e1 := World.ownsRow.cellAt h i (by omega)
    rw [Nat.zero_add, e1, List.getElem?_map, List.getElem?_eq_getElem hi, List.getD_eq_getElem?_getD, List.getElem?_eq_getElem hi]
    rfl⟩⟩
theorem OwnI.holds (h : OwnI w base b c xs) : HoldsK encI 2 w b 0 xs.toArray := by
  intro j hj
  rw [size_flatK] at hj
  rw [List.size_toArray] at hj
  refine ⟨?_, ?_⟩
  · rw [Nat.zero_add, World.ownsRow.cellAt h j (by omega), get_flatK encI 2 xs.toArray j (by simpa using hj)]
    have hq : j / 2 < xs.length := by omega
    have hm := flatI_at xs (j / 2) hq
    have hx : xs.toArray[j / 2]! = xs.getD (j / 2) (0, 0) := by
      rw [getElem!_pos xs.toArray (j / 2) (by simpa using hq), List.getD_eq_getElem?_getD, List.getElem?_eq_getElem hq]; simp
    rw [hx]
    rcases Nat.mod_two_eq_zero_or_one j with e | e
    · rw [e]
      have : j / 2 * 2 = j := by omega
      rw [this] at hm
      rw [hm.1]; rfl
    · rw [e]
      have : j / 2 * 2 + 1 = j := by omega
      rw [this] at hm
      rw [hm.2]; rfl
  · rw [Nat.zero_add]; exact World.ownsRow.frozenAt h j
theorem OwnI.below (h : OwnI w base b c xs) (hb : Below w.heap.size w w') : OwnI w' base b c xs :=
  World.ownsRow.kept (row := none) h ⟨hb.os, hb.tape, hb.output, hb.size, fun k hk _ => hb.block k hk⟩ (.inr (by simp [Value.ownBlock]))
theorem OwnZ.below (h : OwnZ w base b c zs) (hb : Below w.heap.size w w') : OwnZ w' base b c zs :=
  World.ownsRow.kept (row := none) h ⟨hb.os, hb.tape, hb.output, hb.size, fun k hk _ => hb.block k hk⟩ (.inr (by simp [Value.ownBlock]))
/-- Behind an append onto a row of the call's own that is no nil slice: what the value is. -/
theorem ownI_of {w : World} {base n : Nat} {v : Value} {xs : List It} (h : w.ownsRow base 35 2 v n (flatI xs)) (hv : v ≠ .slice none 0 0) : ∃ b c, v = .slice (some ⟨b, 0, none⟩) xs.length c ∧ n = xs.length ∧ OwnI w base b c xs := by
  have hn : n = xs.length := by have := h.1; rw [flatI_length] at this; omega
  subst hn
  rcases h.2 with ⟨e, _⟩ | ⟨g, cap, cur, rfl, r⟩
  · exact absurd e hv
  · exact ⟨g, cap, rfl, rfl, h⟩
theorem ownZ_of {w : World} {base n : Nat} {v : Value} {zs : List Int} (h : w.ownsRow base 3 1 v n (zs.map (Value.int .i64))) (hv : v ≠ .slice none 0 0) : ∃ b c, v = .slice (some ⟨b, 0, none⟩) zs.length c ∧ n = zs.length ∧ OwnZ w base b c zs := by
  have hn : n = zs.length := by have := h.1; rw [List.length_map] at this; omega
  subst hn
  rcases h.2 with ⟨e, _⟩ | ⟨g, cap, cur, rfl, r⟩
  · exact absurd e hv
  · exact ⟨g, cap, rfl, rfl, h⟩
/-- Behind the sort: the row reads as the array. -/
theorem RowR.items {b : Nat} {w0 W : World} {d : Array It} (h : RowR b w0 d W) : ItemsR W b 0 d.size d.toList :=
  ⟨by simp, h.ltW, fun i hi => by
    have hx : d[i]! = d.toList.getD i (0, 0) := by
      rw [getElem!_pos d i hi, List.getD_eq_getElem?_getD, List.getElem?_eq_getElem (by simpa using hi)]; simp
    have := h.at hi
    rw [Nat.zero_add, ← hx]
    exact ⟨this.1, this.2.1⟩⟩
end

/-- What impl.number gives. -/
def num (N : Int) (zs : List Int) (a b : Int) : Int :=
  if a < 0 ∨ b < 0 ∨ N ≤ a ∨ N ≤ b ∨ 1000 < N ∨ (zs.length : Int) ≤ a * N + b then 0 else zs.getD (a * N + b).toNat 0

theorem mul_bound {a b N : Int} (h1 : 0 ≤ a) (h2 : a < N) (h4 : b < N) (h5 : N ≤ 1000) (h3 : 0 ≤ b) : 0 ≤ a * N ∧ a * N ≤ 1000000 ∧ 0 ≤ a * N + b ∧ a * N + b ≤ 1001000 := by
  have e1 : 0 ≤ a * N := Int.mul_nonneg h1 (by omega)
  have e2 : a * N ≤ 1000 * 1000 := Int.mul_le_mul (by omega) h5 (by omega) (by omega)
  exact ⟨e1, by omega, by omega, by omega⟩

set_option maxHeartbeats 1000000 in
theorem number_any (N : Int) (A : Option Addr) (n c : Nat) (zs : List Int) (a b : Int) (w : World) (hz : IntsR w A n zs) (hn : n ≤ maxLen) :
    Calls Try.prog 30 #[.agg #[.int .i64 N, .slice A n c], .int .i64 a, .int .i64 b] w fun e w' =>
      e = .returned (.int .i64 (num N zs a b)) ∧ w.alloc (.cells #[.int .i64 N, .slice A n c] 28) = w' := by
  unfold maxLen at hn
  have HZ := Lib.hid hz
  have HN := Lib.hid (show num N zs a b = if a < 0 ∨ b < 0 ∨ N ≤ a ∨ N ≤ b ∨ 1000 < N ∨ (n : Int) ≤ a * N + b then 0 else zs.getD (a * N + b).toNat 0 from by rw [← hz.1]; rfl)
  clear hz
  by_cases h1 : a < 0
  · have HV := Lib.hid (HN.out.trans (if_pos (.inl h1)))
    go_enter Try.func30, Try.ntmps30
    go_wp2
    go_ret
    exact ⟨by rw [HV.out]; rfl, rfl⟩
  · by_cases h2 : b < 0
    · have HV := Lib.hid (HN.out.trans (if_pos (.inr (.inl h2))))
      go_enter Try.func30, Try.ntmps30
      go_wp2
      go_ret
      exact ⟨by rw [HV.out]; rfl, rfl⟩
    · by_cases h3 : N ≤ a
      · have HV := Lib.hid (HN.out.trans (if_pos (.inr (.inr (.inl h3)))))
        go_enter Try.func30, Try.ntmps30
        go_wp2
        go_ret
        exact ⟨by rw [HV.out]; rfl, rfl⟩
      · by_cases h4 : N ≤ b
        · have HV := Lib.hid (HN.out.trans (if_pos (.inr (.inr (.inr (.inl h4))))))
          go_enter Try.func30, Try.ntmps30
          go_wp2
          go_ret
          exact ⟨by rw [HV.out]; rfl, rfl⟩
        · by_cases h5 : 1000 < N
          · have HV := Lib.hid (HN.out.trans (if_pos (.inr (.inr (.inr (.inr (.inl h5)))))))
            go_enter Try.func30, Try.ntmps30
            go_wp2
            go_ret
            exact ⟨by rw [HV.out]; rfl, rfl⟩
          · obtain ⟨m1, m2, m3, m4⟩ := mul_bound (a := a) (b := b) (N := N) (by omega) (by omega) (by omega) (by omega) (by omega)
            by_cases h6 : (n : Int) ≤ a * N + b
            · have HV := Lib.hid (HN.out.trans (if_pos (.inr (.inr (.inr (.inr (.inr h6)))))))
              go_enter Try.func30, Try.ntmps30
              go_wp2
              go_ret
              exact ⟨by rw [HV.out]; rfl, rfl⟩
            · have HV := Lib.hid (HN.out.trans (if_neg (by omega)))
              obtain ⟨bk, o, rfl, hb, hc⟩ := HZ.out.2 (by omega)
              have hcell := hc (a * N + b).toNat (by omega)
              generalize zs.getD (a * N + b).toNat 0 = x at hcell HV
              have m5 : a * N + b < (n : Int) := by omega
              clear hc
              go_enter Try.func30, Try.ntmps30
              go_wp2
              go_ret
              exact ⟨by rw [HV.out]; rfl, rfl⟩
end Go.Proofs.Ytdpomoengbpcaaa
