/- Walks: sort.SliceStable at entries; impl.SliceStable: it gives the entries as stable sorts them by the table's numbers. -/
import Derived.Test.YtdpomoengbpcaaaFncE
namespace Go.Proofs.Ytdpomoengbpcaaa
open Go.RowKit Go.Sort Go.Lib

theorem stable_tiny (lt : It → It → Bool) (n : Nat) (s : St It) (hn : n ≤ 1) : stable lt n s = s := by
  unfold stable
  rw [insBlocks_stop _ _ _ _ _ (by omega), insSort, insOut_stop _ _ _ _ _ (by omega), passes_stop _ _ _ _ (by omega)]

theorem sortSliceStable_any (N : Int) (A : Option Addr) (nz c : Nat) (zs : List Int) (tb ob blk n ic : Nat) (w1 w0 : World) (d : Array It) (hz : IntsR w1 A nz zs) (hnz : nz ≤ maxLen) (htb : tb < w1.heap.size) (hob : ob < w0.heap.size)
    (h0 : w1.cell? ⟨tb, 0, none⟩ = some (.int .i64 N)) (h1 : w1.cell? ⟨tb, 1, none⟩ = some (.slice A nz c)) (h2 : w0.cell? ⟨ob, 0, none⟩ = some (.slice (some ⟨blk, 0, none⟩) n ic)) (hne : ob ≠ blk)
    (hb : Below w1.heap.size w1 w0) (hblk : w1.heap.size ≤ blk) (hR : RowS blk n w0 ⟨d, []⟩ w0) (hn : n ≤ 1000000) :
    Calls Try.prog 31 #[.iface 24 (.slice (some ⟨blk, 0, none⟩) n ic), .func (.func 32) #[] #[.pointer (some ⟨tb, 0, none⟩), .pointer (some ⟨ob, 0, none⟩)]] w0 fun e w' => e = .returned (.tuple #[]) ∧ RowS blk n w0 (stable (ltT N zs) n ⟨d, []⟩) w' := by
  obtain ⟨i, hi, hd⟩ := info_items
  obtain ⟨ie, hie, hs, hp, hbt⟩ := info_item
  have hW : RowS blk n w0 ⟨d, []⟩ (stabW Try.prog.globals.size 24 (some ⟨blk, 0, none⟩) n ic w0) := ⟨hR.1, (hR.2.alloc _).alloc _⟩
  by_cases h : n ≤ 1
  · have hk : ∃ f, Try.prog.funcs.findIdx? (·.name == "internal/reflectlite" ++ ".Swapper$" ++ toString (swapperK n ie 25)) = some f := by
      rw [swapperK_item ie hp hbt]
      rcases (by omega : n = 0 ∨ n = 1) with rfl | rfl
      · exact ⟨_, swapper_1⟩
      · exact ⟨_, swapper_2⟩
    obtain ⟨f, hf⟩ := hk
    refine sortSliceStable_of _ n ic f i ie hi hd hie hf _ _ _ w0 _ ?_
    refine (stable_fnc_tiny _ _ n _ h).mono fun e w' ⟨he, os, hw⟩ => ⟨he, ?_⟩
    subst hw
    rw [stable_tiny _ _ _ h]
    exact ⟨hW.1, hW.2.grow os⟩
  · have hk9 : swapperK n ie 25 = 9 := by rw [swapperK_item ie hp hbt, if_neg (by omega), if_neg (by omega)]
    refine sortSliceStable_of _ n ic 51 i ie hi hd hie (by rw [hk9]; exact swapper_9) _ _ _ w0 _ ?_
    rw [hk9, if_neg (by omega)]
    exact stable_fnc (ltT N zs) tb ob 51 _ blk n w0 ⟨fun W d' i j hR' hd' hi hj => less_any N A nz c zs tb ob blk n ic w1 w0 hz hnz htb hob h0 h1 h2 hne hb hblk W d' i j hR' hd' hi hj,
      swapSwapsK_of_literal false 51 swapper_9_run 35 ie hie encI 2 encI_length hs agg_item encI_one blk 0 n ic⟩ ⟨d, []⟩ _ hW hn

set_option maxHeartbeats 400000 in
theorem SliceStable_cap (N : Int) (A : Option Addr) (n c : Nat) (zs : List Int) (b o m d : Nat) (xs : List It) (w : World) (hz : IntsR w A n zs) (hn : n ≤ maxLen) (hx : ItemsR w b o m xs) (hm : m ≤ 1000000) :
    Calls Try.prog 25 #[.agg #[.int .i64 N, .slice A n c], .slice (some ⟨b, o, none⟩) m d] w fun e w' =>
      ∃ b' c', e = .returned (.slice (some ⟨b', 0, none⟩) m c') ∧ w.heap.size ≤ b' ∧ ItemsR w' b' 0 m (sorted (ltT N zs) xs) ∧ m ≤ c' ∧ Below w.heap.size w w' := by
  have hL := hx.1
  have HX := Lib.hid hx
  have HZ := Lib.hid hz
  have own0 := ((OwnI.made (w.alloc (.cells #[.int .i64 N, .slice A n c] 28))))
  rw [World.size_alloc] at own0
  have HO := Lib.hid (And.intro (show 0 = ([] : List It).length from rfl) own0)
  have HW := Lib.hid ((hx.alloc (.cells #[.int .i64 N, .slice A n c] 28)).alloc (.cells #[] 35))
  have HN := Lib.hid hn
  have HL := Lib.hid hL
  clear own0 hx hz hn hL
  go_enter Try.func25, Try.ntmps25
  go_wp2_with (at_builtin; refine wpList_appI rfl (.tmp 6) (.tmp 7) rfl (w.heap.size + 1) (w.heap.size + 1) 0 0 [] rfl HO.out b o m d xs rfl HW.out (by omega) (by simp) ?_; intro b1 c1 w1 hown1 hgrow1)
  rw [Nat.zero_add, List.nil_append] at hown1
  have hB1 : Below (w.heap.size + 1) (w.alloc (.cells #[.int .i64 N, .slice A n c] 28)) w1 := below_app ((Below.refl _ _).alloc (by simp) _) hgrow1.out (by simp) (Nat.le_refl _)
  have hlt := hown1.out.2.lt
  have HCAP := Lib.hid (show m ≤ c1 from by
    rcases hown1.out.2.2 with ⟨e, _⟩ | ⟨g, cap, cur, e, h3, r⟩
    · injection e with e; cases e
    · injection e with e1 e2 e3; have := r.1; have := hown1.out.1; omega)
  have hs1 : w.heap.size + 1 ≤ w1.heap.size := by have := hB1.size; simpa using this
  have hR : RowS b1 m (w1.alloc (.cells #[.slice (some ⟨b1, 0, none⟩) m c1] 24)) ⟨xs.toArray, []⟩ (w1.alloc (.cells #[.slice (some ⟨b1, 0, none⟩) m c1] 24)) :=
    ⟨by have := HL.out; simpa using this, RowR.start (Nat.lt_of_lt_of_le hlt.2 (by simp)) ((RowR.start hlt.2 hown1.out.2.holds).alloc _).holds⟩
  have hB2 : Below (w.heap.size + 1) (w.alloc (.cells #[.int .i64 N, .slice A n c] 28)) (w1.alloc (.cells #[.slice (some ⟨b1, 0, none⟩) m c1] 24)) := hB1.alloc hs1 _
  have HC := Lib.hid (sortSliceStable_any N A n c zs w.heap.size w1.heap.size b1 m c1 (w.alloc (.cells #[.int .i64 N, .slice A n c] 28)) _ xs.toArray (HZ.out.alloc _) HN.out (by simp) (by simp) (by simp) (by simp) (by simp) (by omega) (by simpa using hB2) (by simpa using hlt.1) hR hm)
  have HB := Lib.hid (And.intro hlt hB2)
  have hlo : b1 < w1.heap.size := hlt.2
  clear hR hB1 hB2 hlt hgrow1 HO HW HX HZ HN
  go_wp2_with fail
  refine HC.out.mono ?_
  rintro e w' ⟨rfl, hR'⟩
  have hc : w'.cell? ⟨w1.heap.size, 0, none⟩ = some (.slice (some ⟨b1, 0, none⟩) m c1) :=
    (World.cell?_of_block (hR'.2.only.block w1.heap.size (by simp) (fun e => by injection e with e; omega))).trans (by simp)
  have HR' := Lib.hid hR'
  clear hR'
  go_wp2_with fail
  go_ret
  refine ⟨b1, c1, rfl, by have := HB.out.1.1; omega, ?_, HCAP.out, ?_⟩
  · have hi := HR'.out.2.items
    rw [HR'.out.1] at hi
    have he : (stable (ltT N zs) m ⟨xs.toArray, []⟩).d.toList = sorted (ltT N zs) xs := by
      unfold sorted
      rw [HL.out]
    rw [he] at hi
    exact hi
  · have h1 : Below (w.heap.size) w (w.alloc (.cells #[.int .i64 N, .slice A n c] 28)) := (Below.refl _ _).alloc (Nat.le_refl _) _
    have h2 := h1.trans (HB.out.2.mono (by omega))
    exact below_app h2 HR'.out.2.only (by have := h2.size; exact this) (by have := HB.out.1.1; omega)

theorem SliceStable_any (N : Int) (A : Option Addr) (n c : Nat) (zs : List Int) (b o m d : Nat) (xs : List It) (w : World) (hz : IntsR w A n zs) (hn : n ≤ maxLen) (hx : ItemsR w b o m xs) (hm : m ≤ 1000000) :
    Calls Try.prog 25 #[.agg #[.int .i64 N, .slice A n c], .slice (some ⟨b, o, none⟩) m d] w fun e w' =>
      ∃ b' c', e = .returned (.slice (some ⟨b', 0, none⟩) m c') ∧ w.heap.size ≤ b' ∧ ItemsR w' b' 0 m (sorted (ltT N zs) xs) ∧ Below w.heap.size w w' :=
  (SliceStable_cap N A n c zs b o m d xs w hz hn hx hm).mono fun _ _ ⟨b', c', h1, h2, h3, _, h5⟩ => ⟨b', c', h1, h2, h3, h5⟩
end Go.Proofs.Ytdpomoengbpcaaa
