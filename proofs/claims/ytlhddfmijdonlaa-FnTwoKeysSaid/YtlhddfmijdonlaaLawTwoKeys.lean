/- Walks: laws.FnTwoKeys returns true. -/
import Derived.Test.YtlhddfmijdonlaaHelpG
namespace Go.Proofs.Ytlhddfmijdonlaa
open Go.RowKit Go.Sort Go.Lib

/-- By the second order, and where that finds entries equal, by the first: that is a weak order. -/
theorem Weak.lex {α : Type} {lt lt' ltB : α → α → Bool} {C : α → Prop} (hT : Weak lt C) (hU : Weak lt' C)
    (h : ∀ x y, C x → C y → (ltB x y = true ↔ lt' x y = true ∨ (lt' x y = false ∧ lt' y x = false ∧ lt x y = true))) : Weak ltB C := by
  have asym : ∀ x y, C x → C y → ltB x y = true → ltB y x = false := fun x y hx hy hb => by
    cases e : ltB y x with
    | false => rfl
    | true =>
      rcases (h x y hx hy).1 hb with p | ⟨p1, p2, p3⟩ <;> rcases (h y x hy hx).1 e with q | ⟨q1, q2, q3⟩
      · rw [hU.asym x y hx hy p] at q; cases q
      · rw [p] at q2; cases q2
      · rw [q] at p2; cases p2
      · rw [hT.asym x y hx hy p3] at q3; cases q3
  have no : ∀ x y, C x → C y → ltB x y = false → lt' x y = false ∧ (lt' y x = true ∨ lt x y = false) := fun x y hx hy hb => by
    cases e : lt' x y with
    | true => rw [(h x y hx hy).2 (.inl e)] at hb; cases hb
    | false =>
      refine ⟨rfl, ?_⟩
      cases e2 : lt' y x with
      | true => exact .inl rfl
      | false =>
        cases e3 : lt x y with
        | false => exact .inr rfl
        | true => rw [(h x y hx hy).2 (.inr ⟨e, e2, e3⟩)] at hb; cases hb
  have ntrans : ∀ x y z, C x → C y → C z → ltB x y = false → ltB y z = false → ltB x z = false := fun x y z hx hy hz h1 h2 => by
    obtain ⟨a1, a2⟩ := no x y hx hy h1
    obtain ⟨c1, c2⟩ := no y z hy hz h2
    have u := hU.ntrans x y z hx hy hz a1 c1
    cases e : ltB x z with
    | false => rfl
    | true =>
      rcases (h x z hx hz).1 e with p | ⟨_, p2, p3⟩
      · rw [u] at p; cases p
      · rcases a2 with a2 | a2
        · rw [hU.ntrans y z x hy hz hx c1 p2] at a2; cases a2
        · rcases c2 with c2 | c2
          · rw [hU.ntrans z x y hz hx hy p2 a1] at c2; cases c2
          · rw [hT.ntrans x y z hx hy hz a2 c2] at p3; cases p3
  refine ⟨asym, fun x y z hx hy hz h1 h2 => ?_, ntrans⟩
  cases e : ltB x z with
  | true => rfl
  | false =>
    have := ntrans x z y hx hz hy e (asym y z hy hz h2)
    rw [h1] at this; cases this

/-- The table of both orders. -/
def bothT (us ts : List Int) : List Int := List.zipWith (fun u t => if u = 0 then t else u) us ts
theorem bothT_length {us ts : List Int} (h : us.length = ts.length) : (bothT us ts).length = us.length := by unfold bothT; rw [List.length_zipWith]; omega
theorem bothT_succ {us ts : List Int} (h : us.length = ts.length) (k : Nat) (hk : k < us.length) : (bothT us ts).take (k + 1) = (bothT us ts).take k ++ [if us.getD k 0 = 0 then ts.getD k 0 else us.getD k 0] := by
  rw [List.take_succ_eq_append_getElem (by rw [bothT_length h]; exact hk), getD_at us 0 k hk, getD_at ts 0 k (by omega)]
  unfold bothT
  rw [List.getElem_zipWith]
theorem bothT_num (N : Int) {us ts : List Int} (h : us.length = ts.length) (a b : Int) : num N (bothT us ts) a b = if num N us a b = 0 then num N ts a b else num N us a b := by
  unfold num
  rw [bothT_length h, ← h]
  split
  · rw [if_pos rfl]
  · rename_i hc
    have hm : 0 ≤ a * N := Int.mul_nonneg (by omega) (by omega)
    have hi : (a * N + b).toNat < us.length := by omega
    rw [getD_at _ _ _ (by rw [bothT_length h]; exact hi), getD_at us 0 _ hi, getD_at ts 0 _ (by omega)]
    unfold bothT
    rw [List.getElem_zipWith]

theorem both_sorted (rs us k : List Int) (hl : us.length = rs.length) (h3 : rs.length ≤ 300) (hk : ∀ x ∈ k, 0 ≤ x ∧ x < (rs.length : Int)) :
    sorted (ltT (us.length : Int) (rankT us)) (sorted (ltT (rs.length : Int) (rankT rs)) (ents k)) = sorted (ltT (rs.length : Int) (bothT (rankT us) (rankT rs))) (ents k) := by
  have hT : Weak (ltT (rs.length : Int) (rankT rs)) (· ∈ ents k) := (rank_weak rs (by omega)).weak (ents_keys hk)
  have hWU := rank_weak us (by omega)
  rw [hl] at hWU ⊢
  have hU : Weak (ltT (rs.length : Int) (rankT us)) (· ∈ ents k) := hWU.weak (ents_keys hk)
  have hle : (rankT us).length = (rankT rs).length := by rw [rankT_length, rankT_length, hl]
  have hB : ∀ x y, x ∈ ents k → y ∈ ents k → (ltT (rs.length : Int) (bothT (rankT us) (rankT rs)) x y = true ↔ ltT (rs.length : Int) (rankT us) x y = true ∨ (ltT (rs.length : Int) (rankT us) x y = false ∧ ltT (rs.length : Int) (rankT us) y x = false ∧ ltT (rs.length : Int) (rankT rs) x y = true)) := fun x y hx hy => by
    have an := hWU.anti x.1 y.1 (ents_keys hk x hx) (ents_keys hk y hy)
    unfold sg at an
    unfold ltT
    rw [bothT_num _ hle]
    simp only [decide_eq_true_iff, decide_eq_false_iff_not]
    have s1 := sgn_neg (num (rs.length : Int) (rankT us) x.1 y.1)
    have s2 := sgn_neg (num (rs.length : Int) (rankT us) y.1 x.1)
    have s3 := sgn_zero (num (rs.length : Int) (rankT us) x.1 y.1)
    generalize num (rs.length : Int) (rankT us) x.1 y.1 = u at *
    generalize num (rs.length : Int) (rankT us) y.1 x.1 = v at *
    generalize num (rs.length : Int) (rankT rs) x.1 y.1 = t
    split
    · rename_i h0
      constructor
      · intro h; exact .inr ⟨by omega, by omega, h⟩
      · rintro (h | h)
        · omega
        · exact h.2.2
    · rename_i h0
      constructor
      · intro h; exact .inl h
      · rintro (h | ⟨h1, h2, _⟩)
        · exact h
        · omega
  exact sortedA_two hT hU (hT.lex hU hB) (ents_nodup k) hB

set_option maxHeartbeats 4000000 in
set_option maxRecDepth 100000 in
theorem FnTwoKeys_walk (A B D : Option Addr) (n c m d p e' : Nat) (zs vs ks : List Int) (w : World) (hz : IntsR w A n zs) (hv : IntsR w B m vs) (hk : IntsR w D p ks) (hn : n ≤ maxLen) (hnc : n ≤ c) (hm : m ≤ maxLen) (hmd : m ≤ d) (hp : p ≤ maxLen) (hpe : p ≤ e') :
    Calls Try.prog 5 #[.slice A n c, .slice B m d, .slice D p e'] w fun e w' => e = .returned (.bool true) ∧ Below w.heap.size w w' := by
  obtain ⟨q, hq⟩ : ∃ q : Nat, q = min n (min m 300) := ⟨_, rfl⟩
  unfold maxLen at hn hm
  have q1 : q ≤ n := by omega
  have q2 : q ≤ m := by omega
  have q3 : q ≤ 300 := by omega
  have q4 : q ≤ c := by omega
  have q5 : q ≤ d := by omega
  obtain ⟨rs, hrs⟩ : ∃ rs, zs.take q = rs := ⟨_, rfl⟩
  obtain ⟨us, hus⟩ : ∃ us, vs.take q = us := ⟨_, rfl⟩
  have hrl : rs.length = q := by rw [← hrs, List.length_take, hz.1]; omega
  have hul : us.length = q := by rw [← hus, List.length_take, hv.1]; omega
  obtain ⟨k, hkk⟩ : ∃ k, rankKeys rs.length ks = k := ⟨_, rfl⟩
  have hku : rankKeys us.length ks = k := by rw [hul, ← hrl]; exact hkk
  have hkin : ∀ x ∈ k, 0 ≤ x ∧ x < (rs.length : Int) := by rw [← hkk]; exact rankKeys_in rs.length ks
  have hfin := both_sorted rs us k (by omega) (by omega) hkin
  have hz' : IntsR w A q rs := by rw [← hrs]; exact hz.cut q q1
  have hv' : IntsR w B q us := by rw [← hus]; exact hv.cut q q2
  have hqm : q ≤ maxLen := by unfold maxLen; omega
  have H0 := Lib.hid (And.intro hz' (And.intro hv' (And.intro hk (And.intro hqm (And.intro hp hpe)))))
  have hr3 : rs.take 300 = rs := List.take_of_length_le (by omega)
  have hu3 : us.take 300 = us := List.take_of_length_le (by omega)
  have HX := Lib.hid (And.intro hr3 (And.intro hu3 (And.intro hkk hku)))
  have HLL := Lib.hid (show (rankT us).length = (rankT rs).length by rw [rankT_length, rankT_length, hul, hrl])
  have HF := Lib.hid hfin
  have HRL := Lib.hid (And.intro hrl hul)
  have HQQ := Lib.hid hq
  clear hz hv hk hn hnc hm hmd hp hpe hrs hus hrl hul hkk hku hkin hfin hz' hv' hqm hr3 hu3 hq
  go_enter Try.func5, Try.ntmps5
  go_upto_region 1 with fail
  go_cut [7] (fun v wx => v = .int .i64 (q : Int) ∧ wx = w)
  case first =>
    have hq := HQQ.out
    go_wp2_with fail
    all_goals
      go_meet
      exact ⟨by congr 1; omega, rfl⟩
  case rest =>
   obtain ⟨rfl, rfl⟩ := hcut
   clear HQQ
   go_wp2_with fail
   refine (ranked_tab A D q c p e' rs ks wc H0.out.1 H0.out.2.2.1 H0.out.2.2.2.1 q4 H0.out.2.2.2.2.1 H0.out.2.2.2.2.2 rs k HX.out.1 HX.out.2.2.1).mono ?_
   rintro e w1 ⟨b1, c1, L, b2, c2, M, rfl, hM, hM3, hT, hL, hK, hb1⟩
   have HT := Lib.hid (TabB.made (rs.length : Int) c1 hT hL)
   have HK := Lib.hid (hK.alloc (.cells #[.int .i64 (rs.length : Int), .slice (some ⟨b1, 0, none⟩) L c1] 24))
   have HB := Lib.hid (hb1.alloc hb1.size (.cells #[.int .i64 (rs.length : Int), .slice (some ⟨b1, 0, none⟩) L c1] 24))
   have HM := Lib.hid hM
   clear hM hT hL hK hb1
   go_wp2_with fail
   generalize w1.alloc (.cells #[.int .i64 (rs.length : Int), .slice (some ⟨b1, 0, none⟩) L c1] 24) = w2 at HT HK HB ⊢
   generalize w1.heap.size = tb at HT ⊢
   refine (ranked_tab B D q d p e' us ks w2 (H0.out.2.1.below HB.out) (H0.out.2.2.1.below HB.out) H0.out.2.2.2.1 q5 H0.out.2.2.2.2.1 H0.out.2.2.2.2.2 us k HX.out.2.1 HX.out.2.2.2).mono ?_
   rintro e w3 ⟨b3, c3, L', b4, c4, M', rfl, hM', hM3', hT', hL', hK', hb3⟩
   have hT4 := TabB.made (us.length : Int) c3 hT' hL'
   have hb24 := hb3.alloc hb3.size (.cells #[.int .i64 (us.length : Int), .slice (some ⟨b3, 0, none⟩) L' c3] 24)
   have hLL : L' = L := by have h1 := hT'.1; have h2 := HT.out.2.2.2.1.1; have h3 := HLL.out; omega
   subst hLL
   have HU := Lib.hid hT4
   have HT4 := Lib.hid (HT.out.below hb24)
   have HK4 := Lib.hid (HK.out.below hb24)
   have HB4 := Lib.hid (HB.out.trans (hb24.mono HB.out.size))
   clear hM' hM3' hT' hL' hK' hb3 hT4 hb24 HT HK HB HX H0
   have hB5 : Below ((w3.alloc (.cells #[.int .i64 (us.length : Int), .slice (some ⟨b3, 0, none⟩) L' c3] 24)).heap.size) (w3.alloc (.cells #[.int .i64 (us.length : Int), .slice (some ⟨b3, 0, none⟩) L' c3] 24)) ((w3.alloc (.cells #[.int .i64 (us.length : Int), .slice (some ⟨b3, 0, none⟩) L' c3] 24)).alloc (.cells #[] 3)) := below_a _ _
   have hu5 := HU.out.below hB5
   obtain ⟨_, u0, u1, _, _⟩ := hu5
   clear hB5
   go_wp2_with fail
   have HS4 := Lib.hid (show (w3.alloc (.cells #[.int .i64 (us.length : Int), .slice (some ⟨b3, 0, none⟩) L' c3] 24)).heap.size = w3.heap.size + 1 from by simp)
   generalize w3.alloc (.cells #[.int .i64 (us.length : Int), .slice (some ⟨b3, 0, none⟩) L' c3] 24) = w4 at HU HT4 HK4 HB4 HS4 u0 u1 ⊢
   generalize w3.heap.size = ub at HU HS4 u0 u1 ⊢
   have hLb : L' ≤ 90000 := by
     have h1 := HU.out.2.2.2.1.1
     rw [rankT_length, HRL.out.2] at h1
     have := Nat.mul_le_mul q3 q3
     omega
   go_loopg [12, 44] L' (fun g v vi wr => ∃ (i b cc : Nat), v = .slice (some ⟨b, 0, none⟩) i cc ∧ vi = .int .i64 i ∧ i ≤ L' ∧ L' - i ≤ g ∧ Hid (i = ((bothT (rankT us) (rankT rs)).take i).length ∧ OwnZ wr w4.heap.size b cc ((bothT (rankT us) (rankT rs)).take i) ∧ Below w4.heap.size w4 wr))
   case atStart => exact ⟨0, w4.heap.size, 0, by rw [HS4.out], rfl, by omega, by omega, by simp, by rw [List.take_zero]; exact OwnZ.made w4, below_a _ _⟩
   case round =>
     obtain ⟨i, b, cc, rfl, rfl, hiL, hg, HR⟩ := hrel
     clear u0 u1
     have HUR := Lib.hid (HU.out.below HR.out.2.2)
     have HTR := Lib.hid (HT4.out.below HR.out.2.2)
     obtain ⟨_, u0, u1, _, _⟩ := HUR.out
     obtain ⟨_, t0, t1, _, _⟩ := HTR.out
     by_cases hlt : i < L'
     · have hltz : (i : Int) < (L' : Int) := by omega
       have hui : wr.cell? ⟨b3, i, none⟩ = some (.int .i64 ((rankT us).getD i 0)) := by
         obtain ⟨b', o', he, _, hc⟩ := HUR.out.2.2.2.1.2 (by omega)
         injection he with he; injection he with h1 h2; subst h1 h2
         have := hc i hlt; rwa [Nat.zero_add] at this
       have hti : wr.cell? ⟨b1, i, none⟩ = some (.int .i64 ((rankT rs).getD i 0)) := by
         obtain ⟨b', o', he, _, hc⟩ := HTR.out.2.2.2.1.2 (by omega)
         injection he with he; injection he with h1 h2; subst h1 h2
         have := hc i hlt; rwa [Nat.zero_add] at this
       have HS1 := Lib.hid (bothT_succ HLL.out i (by rw [HU.out.2.2.2.1.1]; exact hlt))
       generalize (rankT us).getD i 0 = x at hui HS1
       generalize (rankT rs).getD i 0 = y at hti HS1
       have hbb : w4.heap.size ≤ b := HR.out.2.1.lt.1
       have hsz : w4.heap.size ≤ wr.heap.size := HR.out.2.2.size
       by_cases hx0 : x = 0
       · subst hx0
         rw [if_pos rfl] at HS1
         have HO := Lib.hid (And.intro HR.out.1 (HR.out.2.1.alloc (.cells #[.int .i64 y] 3)))
         have HS := Lib.hid (IntsR.one wr y)
         go_wp2_with (at_builtin; refine wpList_appZ rfl (.tmp 59) (.tmp 61) rfl w4.heap.size b cc i _ rfl HO.out wr.heap.size 0 1 1 [y] rfl HS.out (by omega) (by simp; omega) ?_; intro b5 c5 w5 hown5 hgrow5)
         go_roundg (L' - (i + 1))
         case measure => omega
         case rel =>
           refine ⟨i + 1, b5, c5, rfl, by go_num, by omega, Nat.le_refl _, (show Hid _ from ?_)⟩
           rw [HS1.out]
           exact ⟨hown5.out.1, hown5.out.2, below_app (HR.out.2.2.alloc hsz _) hgrow5.out (by simp; omega) hbb⟩
       · have hxb : (x == 0) = false := by rw [beq_eq_false_iff_ne]; exact hx0
         rw [if_neg hx0] at HS1
         have HO := Lib.hid (And.intro HR.out.1 (HR.out.2.1.alloc (.cells #[.int .i64 x] 3)))
         have HS := Lib.hid (IntsR.one wr x)
         go_wp2_with (at_builtin; refine wpList_appZ rfl (.tmp 59) (.tmp 61) rfl w4.heap.size b cc i _ rfl HO.out wr.heap.size 0 1 1 [x] rfl HS.out (by omega) (by simp; omega) ?_; intro b5 c5 w5 hown5 hgrow5)
         go_roundg (L' - (i + 1))
         case measure => omega
         case rel =>
           refine ⟨i + 1, b5, c5, rfl, by go_num, by omega, Nat.le_refl _, (show Hid _ from ?_)⟩
           rw [HS1.out]
           exact ⟨hown5.out.1, hown5.out.2, below_app (HR.out.2.2.alloc hsz _) hgrow5.out (by simp; omega) hbb⟩
     · have hltz : ¬ (i : Int) < (L' : Int) := by omega
       obtain rfl : i = L' := by omega
       have hbl : (bothT (rankT us) (rankT rs)).length = i := by rw [bothT_length HLL.out]; exact HU.out.2.2.2.1.1
       have hbi : IntsR wr (some ⟨b, 0, none⟩) i (bothT (rankT us) (rankT rs)) := by
         have h2 := HR.out.2.1
         rw [List.take_of_length_le (by rw [hbl]; exact Nat.le_refl _)] at h2
         have := h2.ints
         rw [hbl] at this
         exact this
       have HBI := Lib.hid hbi
       have HKR := Lib.hid (HK4.out.below HR.out.2.2)
       have HBR := Lib.hid (HB4.out.trans (HR.out.2.2.mono HB4.out.size))
       clear hbl hbi HR hg HU HT4 HK4 HB4 u0 u1 t0 t1
       go_wp2_with fail
       refine (entries_tab _ M c2 k wr HKR.out (by omega)).mono ?_
       rintro e w5 ⟨b5, c5, rfl, hit5, hl5, hc5, hb5⟩
       have HL := Lib.hid hit5
       have HU5 := Lib.hid (HUR.out.below hb5)
       have HT5 := Lib.hid (HTR.out.below hb5)
       have HBI5 := Lib.hid (HBI.out.below hb5)
       have HB5 := Lib.hid (HBR.out.trans (hb5.mono HBR.out.size))
       obtain ⟨_, t0, t1, _, _⟩ := HT5.out
       clear hit5 hl5 hc5 hb5 HUR HTR HBI HBR HKR
       go_wp2_with fail
       refine (roads_any _ _ i c1 (rankT rs) b5 0 M c5 (ents k) w5 HT5.out.2.2.2.1 HT5.out.2.2.2.2 HL.out (by omega)).mono ?_
       rintro e w6 ⟨r0, g0, r1, g1, r2, g2, rfl, hrd, hb6⟩
       have hA := Box3.made (c0 := g0) (c1 := g1) (c2 := g2) hrd
       have hb7 := hb6.alloc hb6.size (.cells #[.slice (some ⟨r0, 0, none⟩) M g0, .slice (some ⟨r1, 0, none⟩) M g1, .slice (some ⟨r2, 0, none⟩) M g2] 30)
       have HA := Lib.hid hA
       have HL7 := Lib.hid (HL.out.below hb7)
       have HU7 := Lib.hid (HU5.out.below hb7)
       have HBI7 := Lib.hid (HBI5.out.below hb7)
       have HB7 := Lib.hid (HB5.out.trans (hb7.mono HB5.out.size))
       clear hA hb7 hrd hb6 HL HU5 HT5 HBI5 HB5 t0 t1
       go_wp2_with fail
       generalize w6.alloc (.cells #[.slice (some ⟨r0, 0, none⟩) M g0, .slice (some ⟨r1, 0, none⟩) M g1, .slice (some ⟨r2, 0, none⟩) M g2] 30) = w7 at HA HL7 HU7 HBI7 HB7 ⊢
       generalize w6.heap.size = ab at HA ⊢
       have HQ := Lib.hid (show (q : Int) = (rs.length : Int) by rw [HRL.out.1])
       refine (roads_any (q : Int) _ i cc (bothT (rankT us) (rankT rs)) b5 0 M c5 (ents k) w7 HBI7.out (by unfold maxLen; omega) HL7.out (by omega)).mono ?_
       rintro e w8 ⟨p0, d0, p1, d1, p2, d2, rfl, hrd, hb8⟩
       rw [HQ.out, ← HF.out] at hrd
       have hW := Box3.made (c0 := d0) (c1 := d1) (c2 := d2) hrd
       have hb9 := hb8.alloc hb8.size (.cells #[.slice (some ⟨p0, 0, none⟩) M d0, .slice (some ⟨p1, 0, none⟩) M d1, .slice (some ⟨p2, 0, none⟩) M d2] 30)
       have HWB := Lib.hid hW
       have HA9 := Lib.hid (HA.out.below hb9)
       have HU9 := Lib.hid (HU7.out.below hb9)
       have HB9 := Lib.hid (HB7.out.trans (hb9.mono HB7.out.size))
       clear hW hb9 hrd hb8 HA HL7 HU7 HBI7 HB7
       go_wp2_with fail
       generalize w8.alloc (.cells #[.slice (some ⟨p0, 0, none⟩) M d0, .slice (some ⟨p1, 0, none⟩) M d1, .slice (some ⟨p2, 0, none⟩) M d2] 30) = w9 at HWB HA9 HU9 HB9 ⊢
       generalize w8.heap.size = wb at HWB ⊢
       generalize hSA : sorted (ltT (rs.length : Int) (rankT rs)) (ents k) = SA at HWB HA9
       clear hSA HF
       go_loopg [74] 3 (fun g vi wr => ∃ (j : Nat), vi = .int .i64 j ∧ j ≤ 3 ∧ 3 - j ≤ g ∧ Hid (Below w9.heap.size w9 wr))
       case atStart => exact ⟨0, rfl, by omega, by omega, Below.refl _ _⟩
       case round =>
         obtain ⟨j, rfl, hj3, hg, HR⟩ := hrel
         by_cases hlt2 : j < 3
         · have hltz2 : (j : Int) < 3 := by omega
           have HA1 := Lib.hid (HA9.out.below HR.out)
           have HW1 := Lib.hid (HWB.out.below HR.out)
           have HU1 := Lib.hid (HU9.out.below HR.out)
           obtain ⟨_, u0, u1, _, _⟩ := HU1.out
           obtain ⟨ba, ca, ya, hia⟩ := HA1.out.at hlt2
           obtain ⟨bw, cw, yw, hiw⟩ := HW1.out.at hlt2
           have HIA := Lib.hid hia
           have HIW := Lib.hid hiw
           have hsa : ab < wr.heap.size := by obtain ⟨_, _, _, _, _, _, h, _⟩ := HA1.out; exact h
           have hsw : wb < wr.heap.size := by obtain ⟨_, _, _, _, _, _, h, _⟩ := HW1.out; exact h
           have TR := Lib.hid (fun (W' : World) (hb : Below wr.heap.size wr W') => And.intro ((hb.cell (p := ⟨ab, j, none⟩) hsa).trans ya) ((hb.cell (p := ⟨wb, j, none⟩) hsw).trans yw))
           clear hia hiw hsa hsw HA1 HW1
           go_upto_region 19 with fail
           go_region_held3 (fun w' => w'.cell? ⟨ab, j, none⟩ = some (.slice (some ⟨ba, 0, none⟩) M ca) ∧ w'.cell? ⟨wb, j, none⟩ = some (.slice (some ⟨bw, 0, none⟩) M cw) ∧ w'.cell? ⟨ub, 0, none⟩ = some (.int .i64 (us.length : Int)) ∧ w'.cell? ⟨ub, 1, none⟩ = some (.slice (some ⟨b3, 0, none⟩) i c3)) (go_keep)
             (first
               | (go_at_call 14; refine (roads_any _ _ i c3 (rankT us) ba 0 M ca SA _ (by exact HU1.out.2.2.2.1) HU1.out.2.2.2.2 (by exact HIA.out) (by omega)).mono ?_; rintro e wx ⟨x0, y0, x1, y1, x2, y2, rfl, hrd, hbx⟩; have HRX := Lib.hid (And.intro hrd (below_drew hbx)); obtain ⟨k0, k1⟩ := TR.out wx HRX.out.2; obtain ⟨_, k2, k3, _, _⟩ := HU1.out.below HRX.out.2; obtain ⟨bp, cp, hpi, hix⟩ := index3_slice x0 y0 x1 y1 x2 y2 M j hlt2; have HPI := Lib.hid (hpi wx _ HRX.out.1); clear hrd hbx hpi)
               | (go_at_call 16; refine (same_eq bp 0 M cp bw 0 cw _ _ HPI.out (HIW.out.below HRX.out.2) (by omega)).mono ?_; rintro e wy ⟨rfl, qq, rfl⟩; have k4 : (wx.drewN qq).cell? ⟨ab, j, none⟩ = some (.slice (some ⟨ba, 0, none⟩) M ca) := k0; have k5 : (wx.drewN qq).cell? ⟨wb, j, none⟩ = some (.slice (some ⟨bw, 0, none⟩) M cw) := k1; have k6 : (wx.drewN qq).cell? ⟨ub, 0, none⟩ = some (.int .i64 (us.length : Int)) := k2; have k7 : (wx.drewN qq).cell? ⟨ub, 1, none⟩ = some (.slice (some ⟨b3, 0, none⟩) i c3) := k3))
           go_wp2_with fail
           go_roundg (3 - (j + 1))
           case measure => omega
           case rel => exact ⟨j + 1, by go_num, by omega, Nat.le_refl _, (show Hid _ from below_drewN (HR.out.trans (HRX.out.2.mono HR.out.size)) _)⟩
         · have hltz2 : ¬ (j : Int) < 3 := by omega
           go_wp2_with fail
           go_ret
           exact ⟨rfl, HB9.out.trans (HR.out.mono HB9.out.size)⟩

theorem FnTwoKeys_said {A B D : Option Addr} {n c m d p e' : Nat} {zs vs ks : List Int} (w : World) (hz : IntsR w A n zs) (hnc : n ≤ c) (hc : c ≤ maxLen) (hv : IntsR w B m vs) (hmd : m ≤ d) (hd : d ≤ maxLen) (hk : IntsR w D p ks) (hpe : p ≤ e') (he : e' ≤ maxLen) :
    Calls Try.prog 5 #[.slice A n c, .slice B m d, .slice D p e'] w fun e w' => e = .returned (.bool true) ∧ Below w.heap.size w w' :=
  FnTwoKeys_walk A B D n c m d p e' zs vs ks w hz hv hk (Nat.le_trans hnc hc) hnc (Nat.le_trans hmd hd) hmd (Nat.le_trans hpe he) hpe
end Go.Proofs.Ytlhddfmijdonlaa
