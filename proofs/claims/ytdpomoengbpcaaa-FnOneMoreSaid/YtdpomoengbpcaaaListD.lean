/- Walks: sort.Stable over the list that writes its calls down; impl.Stable. -/
import Derived.Test.YtdpomoengbpcaaaListC
import Derived.Deep.RegionHeld3
import Derived.BigQuiet
namespace Go.Proofs.Ytdpomoengbpcaaa
open Go.RowKit Go.Sort Go.Lib

/-- The calls cs lie at o of block b. -/
def CallsR (w : World) (b o n : Nat) (cs : List Cl) : Prop :=
  cs.length = n ∧ b < w.heap.size ∧ ∀ i, i < n → w.cell? ⟨b, o + i * 4, none⟩ = some (.int .i64 (cs.getD i (0, 0, 0, false)).1) ∧ w.cell? ⟨b, o + i * 4 + 1, none⟩ = some (.int .i64 (cs.getD i (0, 0, 0, false)).2.1)
    ∧ w.cell? ⟨b, o + i * 4 + 2, none⟩ = some (.int .i64 (cs.getD i (0, 0, 0, false)).2.2.1) ∧ w.cell? ⟨b, o + i * 4 + 3, none⟩ = some (.bool (cs.getD i (0, 0, 0, false)).2.2.2)
theorem CallsR.below {w w' : World} {b o n : Nat} {cs : List Cl} (h : CallsR w b o n cs) (hb : Below w.heap.size w w') : CallsR w' b o n cs :=
  ⟨h.1, Nat.lt_of_lt_of_le h.2.1 hb.size, fun i hi => ⟨(hb.cell h.2.1).trans (h.2.2 i hi).1, (hb.cell h.2.1).trans (h.2.2 i hi).2.1, (hb.cell h.2.1).trans (h.2.2 i hi).2.2.1, (hb.cell h.2.1).trans (h.2.2 i hi).2.2.2⟩⟩

theorem flatC_at (cs : List Cl) (i : Nat) (hi : i < cs.length) :
    (flatC cs)[i * 4]? = some (.int .i64 (cs.getD i (0, 0, 0, false)).1) ∧ (flatC cs)[i * 4 + 1]? = some (.int .i64 (cs.getD i (0, 0, 0, false)).2.1)
    ∧ (flatC cs)[i * 4 + 2]? = some (.int .i64 (cs.getD i (0, 0, 0, false)).2.2.1) ∧ (flatC cs)[i * 4 + 3]? = some (.bool (cs.getD i (0, 0, 0, false)).2.2.2) := by
  induction cs generalizing i with
  | nil => simp at hi
  | cons x r ih =>
    cases i with
    | zero => simp [flatC, encC]
    | succ i =>
      have := ih i (by simpa using hi)
      have e : ∀ q, (flatC (x :: r))[(i + 1) * 4 + q]? = (flatC r)[i * 4 + q]? := fun q => by
        rw [show (i + 1) * 4 + q = (i * 4 + q) + 4 from by omega]
        simp [flatC, encC]
      have e0 := e 0
      simp only [Nat.add_zero] at e0
      rw [e0, e 1, e 2, e 3, List.getD_cons_succ]
      exact this

theorem callsR_of_owns {w : World} {base b c : Nat} {cs : List Cl} {n : Nat} (hn : n = cs.length) (h : w.ownsRow base 101 4 (.slice (some ⟨b, 0, none⟩) n c) n (flatC cs)) : CallsR w b 0 n cs := by
  refine ⟨hn.symm, (World.ownsRow.lt h b rfl).2, fun i hi => ?_⟩
  have hh := flatC_at cs i (by omega)
  have e : ∀ q, q < 4 → w.cell? ⟨b, i * 4 + q, none⟩ = (flatC cs)[i * 4 + q]? := fun q hq => by
    have := World.ownsRow.cellAt h (i * 4 + q) (by rw [Nat.mul_comm]; omega)
    simpa using this
  have e0 := e 0 (by omega)
  simp only [Nat.add_zero] at e0
  rw [Nat.zero_add, e0, e 1 (by omega), e 2 (by omega), e 3 (by omega)]
  exact hh

theorem list_ifc (lb ib ic n K : Nat) (N : Int) (A : Option Addr) (nz c : Nat) (zs : List Int) (w0 : World) (pre : List Cl) (hz : IntsR w0 A nz zs) (hnz : nz ≤ maxLen) (hn : n ≤ 1000000) (hK : pre.length + K ≤ 4000000000000) :
    IfcOk (ltT N zs) lb n K (ListR (ltT N zs) lb ib ic n N A nz c w0 pre) :=
  ⟨fun _ _ h => h.sz, fun s W i j h hi hj hk => list_Less lb ib ic n N A nz c zs w0 pre s W h hz hnz i j hi hj hn (by omega),
    fun s W i j h hi hj hk => list_Swap (ltT N zs) lb ib ic n N A nz c w0 pre s W h i j hi hj hn (by omega)⟩

theorem len_nL_nS (s : St It) : s.log.length = nL s + nS s := by
  unfold nL nS
  induction s.log with
  | nil => rfl
  | cons e r ih => cases e <;> simp [Ev.isL, List.countP_cons] at ih ⊢ <;> omega

/-- The sort of so many entries does not write too many calls down. -/
theorem stable_few (lt : It → It → Bool) (n : Nat) (d : Array It) (hn : n ≤ 1000000) : (stable lt n ⟨d, []⟩).log.length ≤ 3000000000 := by
  have h := stable_cost lt n 20 ⟨d, []⟩ (by omega)
  have hl := len_nL_nS (stable lt n ⟨d, []⟩)
  have e1 : nL (⟨d, []⟩ : St It) = 0 := rfl
  have e2 : nS (⟨d, []⟩ : St It) = 0 := rfl
  rw [e1, e2] at h
  omega

set_option maxHeartbeats 1000000 in
set_option maxRecDepth 100000 in
theorem sortStable_any (lb ib ic n : Nat) (N : Int) (A : Option Addr) (nz c : Nat) (zs : List Int) (w0 : World) (d : Array It) (W : World) (h : ListR (ltT N zs) lb ib ic n N A nz c w0 [] ⟨d, []⟩ W) (hz : IntsR w0 A nz zs) (hnz : nz ≤ maxLen) (hn : n ≤ 1000000) :
    Calls Try.prog 27 #[.iface 51 (.pointer (some ⟨lb, 0, none⟩))] W fun e w' => e = .returned (.tuple #[]) ∧ ListR (ltT N zs) lb ib ic n N A nz c w0 [(0, 0, 0, false)] (stable (ltT N zs) n ⟨d, []⟩) w' := by
  have HL := Lib.hid (list_Len (ltT N zs) lb ib ic n N A nz c w0 ⟨d, []⟩ W h rfl)
  have HS := Lib.hid (fun W' hW' => stable_ifc (ltT N zs) lb n 3000000000 (ListR (ltT N zs) lb ib ic n N A nz c w0 [(0, 0, 0, false)]) (list_ifc lb ib ic n 3000000000 N A nz c zs w0 _ hz hnz hn (by simp)) ⟨d, []⟩ W' hW' hn (stable_few _ n d hn))
  have mL := method_Len lb
  clear h hz hnz
  go_enter Try.func27, Try.ntmps27
  go_wp2_with fail
  refine HL.out.mono ?_
  rintro e w1 ⟨rfl, h1⟩
  have H1 := Lib.hid h1
  clear h1
  go_wp2_with fail
  refine (HS.out w1 H1.out).mono ?_
  rintro e w2 ⟨rfl, h2⟩
  have H2 := Lib.hid h2
  clear h2
  go_wp2_with fail
  go_end0
  exact ⟨rfl, H2.out⟩

/-- An append of entries at a step of a region that draws. -/
theorem step_appI {ops : Array Oper} {op : Oper} {a : Act} {w : World} {K : Act → World → Prop} {Q : Exit → Act → World → Prop} {E : Prop} (hgd : op.guard = none) (s x : Operand)
    (ho : op.op = .call { callee := .builtin .append, args := #[s, x], argTypes := #[24, 24] })
    (base b c n : Nat) (xs : List It) (hs : a.eval s = .slice (some ⟨b, 0, none⟩) n c) (hown : Hid (n = xs.length ∧ OwnI w base b c xs))
    (b2 o2 m d : Nat) (ys : List It) (hx : a.eval x = .slice (some ⟨b2, o2, none⟩) m d) (hr : Hid (ItemsR w b2 o2 m ys)) (hlen : n + m ≤ 8000000000000) (hbase : base ≤ w.heap.size)
    (h : ∀ b' c' w', Hid (n + m = (xs ++ ys).length ∧ OwnI w' base b' c' (xs ++ ys)) → Hid (w.grownBy w' (some b)) → K (a.put op.dst (.slice (some ⟨b', 0, none⟩) (n + m) c')) w') :
    if Region.wanted op (yielded ops a.tmps) = true then Oper.wp Try.prog op a w K Q else E := by
  have hw : Region.wanted op (yielded ops a.tmps) = true := by simp [Region.wanted, hgd]
  rw [if_pos hw]
  obtain ⟨i0, hi, hz0, hz1, hz2⟩ := info_parts info_Item
  obtain ⟨hn, hown'⟩ := hown.out
  subst hn
  have hr' := hr.out
  refine wp_append_own w s x 24 ho base 35 i0 _ 2 16 Try.underlying24 hi hz0 hz1 hz2 rfl (by decide) _ xs.length (flatI xs) hs hown' ⟨b2, o2, none⟩ m d (flatI ys) hx (by rw [flatI_length, hr'.1]) hr'.news (flatI_one ys) (by unfold maxLen; omega) (by omega) hbase ?_
  intro v' w' h1 h2 h3
  rw [flatI_append] at h1
  have hv : v' ≠ .slice none 0 0 := fun e => by have := (h3.1 e).1; injection this with e1; cases e1
  obtain ⟨b', c', rfl, hl, ho'⟩ := ownI_of h1 hv
  rw [← hl]
  exact h b' c' w' ⟨hl, ho'⟩ h2

set_option maxHeartbeats 1000000 in
set_option maxRecDepth 100000 in
theorem Stable_cap (N : Int) (A : Option Addr) (n c : Nat) (zs : List Int) (b o m d : Nat) (xs : List It) (w : World) (hz : IntsR w A n zs) (hn : n ≤ maxLen) (hx : ItemsR w b o m xs) (hm : m ≤ 1000000) :
    Calls Try.prog 23 #[.agg #[.int .i64 N, .slice A n c], .slice (some ⟨b, o, none⟩) m d] w fun e w' =>
      ∃ b' c' b'' L c'', e = .returned (.tuple #[.slice (some ⟨b', 0, none⟩) m c', .slice (some ⟨b'', 0, none⟩) L c'']) ∧ ItemsR w' b' 0 m (sorted (ltT N zs) xs)
        ∧ CallsR w' b'' 0 L ((0, 0, 0, false) :: (stable (ltT N zs) xs.length ⟨xs.toArray, []⟩).log.map (evC (ltT N zs))) ∧ L ≤ 4000000000 ∧ m ≤ c' ∧ Below w.heap.size w w' := by
  have hL := hx.1
  have x0 : (w.alloc (.cells #[.int .i64 N, .slice A n c] 28)).cell? ⟨w.heap.size, 0, none⟩ = some (.int .i64 N) := by simp
  have x1 : (w.alloc (.cells #[.int .i64 N, .slice A n c] 28)).cell? ⟨w.heap.size, 1, none⟩ = some (.slice A n c) := by simp
  have HX := Lib.hid hx
  have HZ := Lib.hid hz
  have HN := Lib.hid hn
  have HL := Lib.hid hL
  clear hx hz hn hL
  go_enter Try.func23, Try.ntmps23
  go_wp2_with fail
  have hB1 : Below w.heap.size w (w.alloc (.cells #[.int .i64 N, .slice A n c] 28)) := (Below.refl _ _).alloc (Nat.le_refl _) _
  have hs1 : (w.alloc (.cells #[.int .i64 N, .slice A n c] 28)).heap.size = w.heap.size + 1 := by simp
  generalize w.alloc (.cells #[.int .i64 N, .slice A n c] 28) = w1 at x0 x1 hB1 hs1 ⊢
  generalize hsz : w.heap.size = S at x0 x1 hs1 hB1 ⊢
  have HB := Lib.hid (And.intro hB1 hsz)
  have HX1 := Lib.hid (HX.out.below (by rw [hsz]; exact hB1))
  have own0 := OwnI.made w1.drew
  have hdr : w1.drew.heap.size = S + 1 := hs1
  rw [hdr] at own0
  have HO := Lib.hid (And.intro (show 0 = ([] : List It).length from rfl) own0)
  have HW := Lib.hid (show ItemsR (w1.drew.alloc (.cells #[] 35)) b o m xs from ItemsR.alloc (w := w1.drew) (HX1.out.below ⟨rfl, rfl, rfl, Nat.le_refl _, fun _ _ => rfl⟩) _)
  clear hB1 hsz own0
  have KC := Lib.hid (fun (w2 : World) (hg : Hid ((w1.drew.alloc (.cells #[] 35)).grownBy w2 (some (S + 1)))) =>
    show w2.cell? ⟨S, 0, none⟩ = some (.int .i64 N) ∧ w2.cell? ⟨S, 1, none⟩ = some (.slice A n c) ∧ S + 1 < w2.heap.size from by
      have hb : Below (S + 1) w1.drew w2 := below_app ((Below.refl _ _).alloc (by rw [hdr]; exact Nat.le_refl _) _) hg.out (by simp [hdr]) (Nat.le_refl _)
      have := hg.out.size
      rw [World.size_alloc, hdr] at this
      exact ⟨(hb.cell (p := ⟨S, 0, none⟩) (by show S < S + 1; omega)).trans x0, (hb.cell (p := ⟨S, 1, none⟩) (by show S < S + 1; omega)).trans x1, by omega⟩)
  go_region_held3 (fun w' => w'.cell? ⟨S, 0, none⟩ = some (.int .i64 N) ∧ w'.cell? ⟨S, 1, none⟩ = some (.slice A n c)) (go_keep)
    (first
      | (refine step_appI rfl (.tmp 8) (.tmp 9) rfl (S + 1) (S + 1) 0 0 [] rfl HO.out b o m d xs rfl HW.out (by omega) (by show S + 1 ≤ (w1.alloc _).heap.size; rw [World.size_alloc, hs1]; omega) ?_; intro b1 c1 w2 hown1 hgrow1; obtain ⟨k0, k1, k2⟩ := KC.out w2 hgrow1))
  clear x0 x1 KC HO HW
  rw [List.nil_append] at hown1
  have HCAP := Lib.hid (show m ≤ c1 from by
    rcases hown1.out.2.2 with ⟨e, _⟩ | ⟨g, cap, cur, e, h3, r⟩
    · injection e with e; cases e
    · injection e with e1 e2 e3; have := r.1; have := hown1.out.1; omega)
  have hB2 : Below w.heap.size w w2 := by
    have h1 : Below w.heap.size w w1 := by rw [HB.out.2]; exact HB.out.1
    have h2 : Below (S + 1) w1 w2 := below_app (w := (w1.alloc (.cells #[] 35)).drew) (show Below (S + 1) w1 (w1.alloc (.cells #[] 35)).drew from (by have hh := (Below.refl (S + 1) w1).alloc (by rw [hs1]; exact Nat.le_refl _) (.cells #[] 35); exact ⟨hh.os, hh.tape, hh.output, hh.size, hh.block⟩)) hgrow1.out (by show S + 1 ≤ (w1.alloc _).heap.size; rw [World.size_alloc, hs1]; omega) (Nat.le_refl _)
    exact h1.trans (h2.mono (by rw [HB.out.2]; omega))
  have HLR : Hid (ListR (ltT N zs) w2.heap.size b1 c1 m N A n c w [] ⟨xs.toArray, []⟩ (w2.alloc (.cells #[.int .i64 N, .slice A n c, .slice (some ⟨b1, 0, none⟩) m c1, .slice none 0 0] 53))) := by
    have hlt := hown1.out.2.lt
    have hS := HB.out.2
    refine ⟨by simpa using HL.out, by simp, by simp, by simp, ⟨none, 0, by simp, World.ownsRow_nil _ _ _ _⟩, by simp, ?_, hlt.2, by omega, by simp, hB2.alloc hB2.size _⟩
    exact (hown1.out.2.alloc _).holds
  have HC := Lib.hid (sortStable_any w2.heap.size b1 c1 m N A n c zs w xs.toArray _ HLR.out HZ.out HN.out hm)
  clear hB2 HLR
  go_wp2_with fail
  refine HC.out.mono ?_
  rintro e w3 ⟨rfl, hR⟩
  obtain ⟨CA, cc, g1, g2⟩ := hR.c3
  have hc2 := hR.c2
  have hfw := stable_few (ltT N zs) m xs.toArray hm
  have hne : CA ≠ none := by
    rintro rfl
    rcases g2.2 with ⟨h1, h2⟩ | ⟨_, _, _, h1, _⟩
    · injection h1 with _ h3; simp at h3
    · injection h1 with h3; cases h3
  obtain ⟨ca, rfl⟩ : ∃ ca, CA = some ca := by cases CA with
    | none => exact absurd rfl hne
    | some a => exact ⟨a, rfl⟩
  obtain ⟨cb, rfl⟩ : ∃ cb, ca = ⟨cb, 0, none⟩ := by
    rcases g2.2 with ⟨h1, h2⟩ | ⟨g, _, _, h1, _⟩
    · injection h1 with h3; cases h3
    · injection h1 with h3; injection h3 with h4; exact ⟨g, h4⟩
  have HR := Lib.hid (And.intro hR (And.intro g2 hfw))
  generalize hLL : [((0 : Int), (0 : Int), (0 : Int), false)].length + (stable (ltT N zs) m ⟨xs.toArray, []⟩).log.length = L at g1 HR
  have HLL := Lib.hid hLL
  clear hR g2 hfw hne HC hLL
  generalize w2.heap.size = lb at *
  go_wp2_with fail
  go_quiet (fail)
  go_wp2_with fail
  refine bodyPost_ret (v := .tuple #[.slice (some ⟨b1, 0, none⟩) m c1, .slice (some ⟨cb, 0, none⟩) L cc]) (by simp [results, Try.results23, go_sem]) rfl ?_
  have hR := HR.out.1
  have hB : Below w.heap.size w w3 := hR.below
  have hsz : (stable (ltT N zs) m ⟨xs.toArray, []⟩).d.size = m := hR.sz
  have hil := hR.il
  have hll := hR.ll
  have hit := (RowR.mk (World.grownBy.refl w3 _) hR.holds (by omega) : RowR b1 w3 _ w3).items
  rw [hsz, show (stable (ltT N zs) m ⟨xs.toArray, []⟩).d.toList = sorted (ltT N zs) xs from by unfold sorted; rw [HL.out]] at hit
  have hcs := callsR_of_owns (by rw [← HLL.out]; simp [Nat.add_comm]) HR.out.2.1
  refine ⟨b1, c1, cb, L, cc, rfl, hit.below ⟨rfl, rfl, rfl, Nat.le_refl _, fun _ _ => rfl⟩, ?_, ?_, HCAP.out, ⟨hB.os, hB.tape, hB.output, hB.size, hB.block⟩⟩
  · rw [HL.out]
    exact hcs.below ⟨rfl, rfl, rfl, Nat.le_refl _, fun _ _ => rfl⟩
  · rw [← HLL.out]
    have := HR.out.2.2
    simp only [List.length_cons, List.length_nil]
    omega

theorem Stable_any (N : Int) (A : Option Addr) (n c : Nat) (zs : List Int) (b o m d : Nat) (xs : List It) (w : World) (hz : IntsR w A n zs) (hn : n ≤ maxLen) (hx : ItemsR w b o m xs) (hm : m ≤ 1000000) :
    Calls Try.prog 23 #[.agg #[.int .i64 N, .slice A n c], .slice (some ⟨b, o, none⟩) m d] w fun e w' =>
      ∃ b' c' b'' L c'', e = .returned (.tuple #[.slice (some ⟨b', 0, none⟩) m c', .slice (some ⟨b'', 0, none⟩) L c'']) ∧ ItemsR w' b' 0 m (sorted (ltT N zs) xs)
        ∧ CallsR w' b'' 0 L ((0, 0, 0, false) :: (stable (ltT N zs) xs.length ⟨xs.toArray, []⟩).log.map (evC (ltT N zs))) ∧ L ≤ 4000000000 ∧ Below w.heap.size w w' :=
  (Stable_cap N A n c zs b o m d xs w hz hn hx hm).mono fun _ _ ⟨b', c', b'', L, c'', h1, h2, h3, h4, _, h6⟩ => ⟨b', c', b'', L, c'', h1, h2, h3, h4, h6⟩
end Go.Proofs.Ytdpomoengbpcaaa
