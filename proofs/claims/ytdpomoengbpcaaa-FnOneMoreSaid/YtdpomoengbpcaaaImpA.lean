/- Walks: impl.StableFunc: it gives the entries as stable sorts them by the table's numbers. -/
import Derived.Test.YtdpomoengbpcaaaApp
namespace Go.Proofs.Ytdpomoengbpcaaa
open Go.RowKit Go.Sort Go.Lib

/-- By a table: x comes before y. -/
def ltT (N : Int) (zs : List Int) (x y : It) : Bool := decide (num N zs x.1 y.1 < 0)

set_option maxHeartbeats 400000 in
theorem cmp_any (N : Int) (A : Option Addr) (n c : Nat) (zs : List Int) (x y : It) (tb : Nat) (w : World) (hz : IntsR w A n zs) (hn : n ≤ maxLen) (htb : tb < w.heap.size)
    (h0 : w.cell? ⟨tb, 0, none⟩ = some (.int .i64 N)) (h1 : w.cell? ⟨tb, 1, none⟩ = some (.slice A n c)) :
    Calls Try.prog 29 #[.agg #[.int .i64 x.1, .int .i64 x.2], .agg #[.int .i64 y.1, .int .i64 y.2], .pointer (some ⟨tb, 0, none⟩)] w fun e w' =>
      e = .returned (.int .i64 (num N zs x.1 y.1)) ∧ ∃ q os, w' = Sort.grow (w.drewN q) os := by
  have HN := Lib.hid (fun W (hW : IntsR W A n zs) => number_any N A n c zs x.1 y.1 W hW hn)
  have HZ := Lib.hid hz
  have e0 : tb ≠ w.heap.size := by omega
  have e1 : tb ≠ w.heap.size + 1 := by omega
  clear hz hn
  go_enter Try.func29, Try.ntmps29
  go_wp2_with fail
  refine (HN.out _ ((HZ.out.alloc _).alloc _)).mono ?_
  rintro e w' ⟨rfl, rfl⟩
  go_wp2_with fail
  go_ret
  exact ⟨rfl, 0, _, by rw [alloc_eq_grow, alloc_eq_grow, alloc_eq_grow, grow_grow, grow_grow]; rfl⟩

/-- The comparison in whatever world the sort passes through. -/
theorem cmp_gives (N : Int) (A : Option Addr) (n c : Nat) (zs : List Int) (tb blk : Nat) (w1 w0 : World) (hz : IntsR w1 A n zs) (hn : n ≤ maxLen) (htb : tb < w1.heap.size)
    (h0 : w1.cell? ⟨tb, 0, none⟩ = some (.int .i64 N)) (h1 : w1.cell? ⟨tb, 1, none⟩ = some (.slice A n c)) (hb : Below w1.heap.size w1 w0) (hblk : w1.heap.size ≤ blk) : CmpGives tb (fun x y => num N zs x.1 y.1) blk w0 := by
  intro W hW x y
  have hB : Below w1.heap.size w1 W := hb.trans ⟨hW.os, hW.tape, hW.output, hW.size, fun k hk => hW.block k (Nat.lt_of_lt_of_le hk hb.size) (fun e => by injection e with e; omega)⟩
  exact cmp_any N A n c zs x y tb W (hz.below hB) hn (Nat.lt_of_lt_of_le htb hB.size) ((hB.cell (p := ⟨tb, 0, none⟩) htb).trans h0) ((hB.cell (p := ⟨tb, 1, none⟩) htb).trans h1)

/-- The stable sort of a list of entries. -/
def sorted (lt : It → It → Bool) (xs : List It) : List It := (stable lt xs.length ⟨xs.toArray, []⟩).d.toList
theorem sorted_length (lt : It → It → Bool) (xs : List It) : (sorted lt xs).length = xs.length := by
  unfold sorted; rw [Array.length_toList, (stable_run lt xs.length ⟨xs.toArray, []⟩).size]; simp

set_option maxHeartbeats 400000 in
theorem StableFunc_cap (N : Int) (A : Option Addr) (n c : Nat) (zs : List Int) (b o m d : Nat) (xs : List It) (w : World) (hz : IntsR w A n zs) (hn : n ≤ maxLen) (hx : ItemsR w b o m xs) (hm : m ≤ 1000000) :
    Calls Try.prog 24 #[.agg #[.int .i64 N, .slice A n c], .slice (some ⟨b, o, none⟩) m d] w fun e w' =>
      ∃ b' c', e = .returned (.slice (some ⟨b', 0, none⟩) m c') ∧ w.heap.size ≤ b' ∧ ItemsR w' b' 0 m (sorted (ltT N zs) xs) ∧ m ≤ c' ∧ Below w.heap.size w w' := by
  have hL := hx.1
  have HX := Lib.hid hx
  have HZ := Lib.hid hz
  have own0 := ((OwnI.made (w.alloc (.cells #[.int .i64 N, .slice A n c] 28))))
  rw [World.size_alloc] at own0
  have HO := Lib.hid (And.intro (show 0 = ([] : List It).length from rfl) own0)
  have HW := Lib.hid ((hx.alloc (.cells #[.int .i64 N, .slice A n c] 28)).alloc (.cells #[] 35))
  have HN := Lib.hid hn
  have HL := Lib.hid hL
  clear own0 hx hz hn hL
  go_enter Try.func24, Try.ntmps24
  go_wp2_with (at_builtin; refine wpList_appI rfl (.tmp 6) (.tmp 7) rfl (w.heap.size + 1) (w.heap.size + 1) 0 0 [] rfl HO.out b o m d xs rfl HW.out (by omega) (by simp) ?_; intro b1 c1 w1 hown1 hgrow1)
  rw [Nat.zero_add, List.nil_append] at hown1
  have hB1 : Below (w.heap.size + 1) (w.alloc (.cells #[.int .i64 N, .slice A n c] 28)) w1 := below_app ((Below.refl _ _).alloc (by simp) _) hgrow1.out (by simp) (Nat.le_refl _)
  have hlt := hown1.out.2.lt
  have HCAP := Lib.hid (show m ≤ c1 from by
    rcases hown1.out.2.2 with ⟨e, _⟩ | ⟨g, cap, cur, e, h3, r⟩
    · injection e with e; cases e
    · injection e with e1 e2 e3; have := r.1; have := hown1.out.1; omega)
  have hC := cmp_gives N A n c zs w.heap.size b1 (w.alloc (.cells #[.int .i64 N, .slice A n c] 28)) w1 (HZ.out.alloc _) HN.out (by simp) (by simp) (by simp) (by simpa using hB1) (by simpa using hlt.1)
  have hR := RowR.start hlt.2 hown1.out.2.holds
  have hs : (⟨xs.toArray, []⟩ : St It).d.size = m := by have := HL.out; simpa using this
  have HC := Lib.hid (SortStableFunc_any b1 w.heap.size m c1 w1 _ hC ⟨xs.toArray, []⟩ w1 hR hs (by omega))
  have HB := Lib.hid (And.intro hlt hB1)
  clear hC hR hs hB1 hlt hgrow1 HO HW HX HZ HN
  go_wp2_with fail
  refine HC.out.mono ?_
  rintro e w' ⟨rfl, hR'⟩
  have HR' := Lib.hid hR'
  clear hR'
  go_wp2_with fail
  go_ret
  have hsz : (stable (ltI fun x y => num N zs x.1 y.1) m ⟨xs.toArray, []⟩).d.size = m := by
    have := (stable_run (ltI fun x y => num N zs x.1 y.1) m ⟨xs.toArray, []⟩).size
    rw [this]; have := HL.out; simpa using this
  refine ⟨b1, c1, rfl, by have := HB.out.1.1; omega, ?_, HCAP.out, ?_⟩
  · have hi := HR'.out.items
    rw [hsz] at hi
    have he : (stable (ltI fun x y => num N zs x.1 y.1) m ⟨xs.toArray, []⟩).d.toList = sorted (ltT N zs) xs := by
      unfold sorted
      rw [HL.out]
      rfl
    rw [he] at hi
    exact hi
  · have h1 : Below (w.heap.size) w (w.alloc (.cells #[.int .i64 N, .slice A n c] 28)) := (Below.refl _ _).alloc (Nat.le_refl _) _
    have h2 := h1.trans (HB.out.2.mono (by omega))
    exact below_app h2 HR'.out.only (by have := h2.size; exact this) (by have := HB.out.1.1; omega)

theorem StableFunc_any (N : Int) (A : Option Addr) (n c : Nat) (zs : List Int) (b o m d : Nat) (xs : List It) (w : World) (hz : IntsR w A n zs) (hn : n ≤ maxLen) (hx : ItemsR w b o m xs) (hm : m ≤ 1000000) :
    Calls Try.prog 24 #[.agg #[.int .i64 N, .slice A n c], .slice (some ⟨b, o, none⟩) m d] w fun e w' =>
      ∃ b' c', e = .returned (.slice (some ⟨b', 0, none⟩) m c') ∧ w.heap.size ≤ b' ∧ ItemsR w' b' 0 m (sorted (ltT N zs) xs) ∧ Below w.heap.size w w' :=
  (StableFunc_cap N A n c zs b o m d xs w hz hn hx hm).mono fun _ _ ⟨b', c', h1, h2, h3, _, h5⟩ => ⟨b', c', h1, h2, h3, h5⟩
end Go.Proofs.Ytdpomoengbpcaaa
