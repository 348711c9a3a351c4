/- The stable sort of Go's library in plain Lean: the array, and the log of what was asked and exchanged; no program in this text. -/
import Derived.Sort.LotA
namespace Go.Proofs.Ytdpomoengbpcaaa
open Go.Sort

/-- What the sort does, one by one: 'less i j' asks of the elements x, y that stand at i and j then; 'swap i j' exchanges them. -/
inductive Ev (α : Type) where
  | less (i j : Nat) (x y : α)
  | swap (i j : Nat)

/-- The array and what has been done so far. -/
structure St (α : Type) where
  d : Array α
  log : List (Ev α)

section
variable {α : Type} [Inhabited α]
def St.ask (s : St α) (i j : Nat) : St α := ⟨s.d, s.log ++ [.less i j s.d[i]! s.d[j]!]⟩
def St.swap (s : St α) (i j : Nat) : St α := ⟨swp s.d i j, s.log ++ [.swap i j]⟩

@[simp] theorem St.ask_d (s : St α) (i j : Nat) : (s.ask i j).d = s.d := rfl
@[simp] theorem St.swap_d (s : St α) (i j : Nat) : (s.swap i j).d = swp s.d i j := rfl
@[simp] theorem St.ask_log (s : St α) (i j : Nat) : (s.ask i j).log = s.log ++ [.less i j s.d[i]! s.d[j]!] := rfl
@[simp] theorem St.swap_log (s : St α) (i j : Nat) : (s.swap i j).log = s.log ++ [.swap i j] := rfl

variable (lt : α → α → Bool)
def St.yes (s : St α) (i j : Nat) : Bool := lt s.d[i]! s.d[j]!

/-- 'for j := j; j > a && less(j, j-1); j-- { swap(j, j-1) }'. -/
def insIn (a : Nat) : Nat → St α → St α
  | 0, s => s
  | j + 1, s => if a < j + 1 then (if s.yes lt (j + 1) j = true then insIn a j ((s.ask (j + 1) j).swap (j + 1) j) else s.ask (j + 1) j) else s

/-- 'for i := i; i < b; i++ { .. }'. -/
def insOut (a b i : Nat) (s : St α) : St α :=
  if i < b then insOut a b (i + 1) (insIn lt a i s) else s
termination_by b - i

def insSort (a b : Nat) (s : St α) : St α := insOut lt a b (a + 1) s

/-- The binary search between i and j: of the middle h the pair 'q h' is asked; where the answer is 'pol' it goes on above h, else up to h. What is found, and the log. -/
def bs (q : Nat → Nat × Nat) (pol : Bool) (i j : Nat) (s : St α) : Nat × St α :=
  if i < j then
    (if s.yes lt (q ((i + j) / 2)).1 (q ((i + j) / 2)).2 = pol then bs q pol ((i + j) / 2 + 1) j (s.ask (q ((i + j) / 2)).1 (q ((i + j) / 2)).2)
     else bs q pol i ((i + j) / 2) (s.ask (q ((i + j) / 2)).1 (q ((i + j) / 2)).2))
  else (i, s)
termination_by j - i
decreasing_by all_goals omega

/-- 'for k := k; k < e; k++ { swap(k, k+1) }'. -/
def shUp (e k : Nat) (s : St α) : St α :=
  if k < e then shUp e (k + 1) (s.swap k (k + 1)) else s
termination_by e - k

/-- 'for k := k; k > i; k-- { swap(k, k-1) }'. -/
def shDn (i : Nat) : Nat → St α → St α
  | 0, s => s
  | k + 1, s => if i < k + 1 then shDn i k (s.swap (k + 1) k) else s

/-- 'for i := i; i < n; i++ { swap(a+i, b+i) }'. -/
def swRange (a b n i : Nat) (s : St α) : St α :=
  if i < n then swRange a b n (i + 1) (s.swap (a + i) (b + i)) else s
termination_by n - i

/-- The rotation's loop, from i and j (both above 0 wherever it is called). -/
def rot (m i j : Nat) (s : St α) : St α :=
  if _h : i = 0 ∨ j = 0 then s else
  if i = j then swRange (m - i) m i 0 s
  else if j < i then rot m (i - j) j (swRange (m - i) m j 0 s)
  else rot m i (j - i) (swRange (m - i) (m + j - i) i 0 s)
termination_by i + j
decreasing_by all_goals omega

def rotate (a m b : Nat) (s : St α) : St α := rot m (m - a) (b - m) s

/-- Where the search of symMerge begins and ends. -/
def lo (a m b : Nat) : Nat := if (a + b) / 2 < m then (a + b) / 2 + m - b else a
def hi (a m b : Nat) : Nat := if (a + b) / 2 < m then (a + b) / 2 else m
/-- The search of symMerge. -/
def bsC (a m b : Nat) (s : St α) : Nat × St α := bs lt (fun c => ((a + b) / 2 + m - 1 - c, c)) false (lo a m b) (hi a m b) s
/-- .. and its rotation. -/
def turn (a m b : Nat) (r : Nat × St α) : St α := if r.1 < m ∧ m < (a + b) / 2 + m - r.1 then rotate r.1 m ((a + b) / 2 + m - r.1) r.2 else r.2

def symMerge (a m b : Nat) (s : St α) : St α :=
  if m - a = 1 then shUp ((bs lt (fun h => (h, a)) true m b s).1 - 1) a (bs lt (fun h => (h, a)) true m b s).2
  else if b - m = 1 then shDn (bs lt (fun h => (m, h)) false a m s).1 m (bs lt (fun h => (m, h)) false a m s).2
  else
    match bsC lt a m b s with
    | r =>
      match (if _h : a < r.1 ∧ r.1 < (a + b) / 2 then symMerge a r.1 ((a + b) / 2) (turn a m b r) else turn a m b r) with
      | s2 => if _h : (a + b) / 2 < (a + b) / 2 + m - r.1 ∧ (a + b) / 2 + m - r.1 < b then symMerge ((a + b) / 2) ((a + b) / 2 + m - r.1) b s2 else s2
termination_by b - a
decreasing_by all_goals omega

/-- The blocks of 20. -/
def insBlocks (n a b : Nat) (s : St α) : St α :=
  if b ≤ n then insBlocks n b (b + 20) (insSort lt a b s) else insSort lt a n s
termination_by n + 1 - b

/-- One round over the blocks of z entries. -/
def mergePass (n z a b : Nat) (s : St α) : St α :=
  if _h : b ≤ n ∧ 0 < z then mergePass n z b (b + 2 * z) (symMerge lt a (a + z) b s) else if a + z < n then symMerge lt a (a + z) n s else s
termination_by n + 1 - b

def passes (n z : Nat) (s : St α) : St α :=
  if _h : z < n ∧ 0 < z then passes n (z * 2) (mergePass lt n z 0 (2 * z) s) else s
termination_by n - z

def stable (n : Nat) (s : St α) : St α := passes lt n 20 (insBlocks lt n 0 20 s)
end

/-! ### One equation a way through each loop -/
section
variable {α : Type} [Inhabited α] (lt : α → α → Bool)
theorem insIn_stop (a j : Nat) (s : St α) (h : j ≤ a) : insIn lt a j s = s := by
  cases j with
  | zero => rfl
  | succ j => rw [insIn, if_neg (by omega)]
theorem insIn_no (a j : Nat) (s : St α) (h : a < j + 1) (hl : lt s.d[j + 1]! s.d[j]! = false) : insIn lt a (j + 1) s = s.ask (j + 1) j := by
  rw [insIn, if_pos h, if_neg (by simp [St.yes, hl])]
theorem insIn_go (a j : Nat) (s : St α) (h : a < j + 1) (hl : lt s.d[j + 1]! s.d[j]! = true) : insIn lt a (j + 1) s = insIn lt a j ((s.ask (j + 1) j).swap (j + 1) j) := by
  rw [insIn, if_pos h, if_pos (by simp [St.yes, hl])]
theorem insOut_go (a b i : Nat) (s : St α) (h : i < b) : insOut lt a b i s = insOut lt a b (i + 1) (insIn lt a i s) := by
  rw [insOut, if_pos h]
theorem insOut_stop (a b i : Nat) (s : St α) (h : ¬ i < b) : insOut lt a b i s = s := by
  rw [insOut, if_neg h]
theorem bs_stop (q : Nat → Nat × Nat) (pol : Bool) (i j : Nat) (s : St α) (h : ¬ i < j) : bs lt q pol i j s = (i, s) := by
  rw [bs, if_neg h]
theorem bs_yes (q : Nat → Nat × Nat) (pol : Bool) (i j : Nat) (s : St α) (h : i < j) (hl : lt s.d[(q ((i + j) / 2)).1]! s.d[(q ((i + j) / 2)).2]! = pol) :
    bs lt q pol i j s = bs lt q pol ((i + j) / 2 + 1) j (s.ask (q ((i + j) / 2)).1 (q ((i + j) / 2)).2) := by
  rw [bs, if_pos h, if_pos (by exact hl)]
theorem bs_no (q : Nat → Nat × Nat) (pol : Bool) (i j : Nat) (s : St α) (h : i < j) (hl : lt s.d[(q ((i + j) / 2)).1]! s.d[(q ((i + j) / 2)).2]! = !pol) :
    bs lt q pol i j s = bs lt q pol i ((i + j) / 2) (s.ask (q ((i + j) / 2)).1 (q ((i + j) / 2)).2) := by
  rw [bs, if_pos h, if_neg (by unfold St.yes; rw [hl]; cases pol <;> simp)]
omit lt in
theorem shUp_go (e k : Nat) (s : St α) (h : k < e) : shUp e k s = shUp e (k + 1) (s.swap k (k + 1)) := by rw [shUp, if_pos h]
theorem shUp_stop (e k : Nat) (s : St α) (h : ¬ k < e) : shUp e k s = s := by rw [shUp, if_neg h]
theorem shDn_go (i k : Nat) (s : St α) (h : i < k + 1) : shDn i (k + 1) s = shDn i k (s.swap (k + 1) k) := by rw [shDn, if_pos h]
theorem shDn_stop (i k : Nat) (s : St α) (h : k ≤ i) : shDn i k s = s := by
  cases k with
  | zero => rfl
  | succ k => rw [shDn, if_neg (by omega)]
theorem swRange_go (a b n i : Nat) (s : St α) (h : i < n) : swRange a b n i s = swRange a b n (i + 1) (s.swap (a + i) (b + i)) := by rw [swRange, if_pos h]
theorem swRange_stop (a b n i : Nat) (s : St α) (h : ¬ i < n) : swRange a b n i s = s := by rw [swRange, if_neg h]
theorem rot_end (m i : Nat) (s : St α) (h : 0 < i) : rot m i i s = swRange (m - i) m i 0 s := by
  rw [rot, dif_neg (by omega), if_pos rfl]
theorem rot_left (m i j : Nat) (s : St α) (hj : 0 < j) (h : j < i) : rot m i j s = rot m (i - j) j (swRange (m - i) m j 0 s) := by
  rw [rot, dif_neg (by omega), if_neg (by omega), if_pos h]
theorem rot_right (m i j : Nat) (s : St α) (hi : 0 < i) (h : i < j) : rot m i j s = rot m i (j - i) (swRange (m - i) (m + j - i) i 0 s) := by
  rw [rot, dif_neg (by omega), if_neg (by omega), if_neg (by omega)]
theorem symMerge_first (a m b : Nat) (s : St α) (h : m - a = 1) :
    symMerge lt a m b s = shUp ((bs lt (fun h => (h, a)) true m b s).1 - 1) a (bs lt (fun h => (h, a)) true m b s).2 := by
  rw [symMerge, if_pos h]
theorem symMerge_last (a m b : Nat) (s : St α) (h : ¬ m - a = 1) (h2 : b - m = 1) :
    symMerge lt a m b s = shDn (bs lt (fun h => (m, h)) false a m s).1 m (bs lt (fun h => (m, h)) false a m s).2 := by
  rw [symMerge, if_neg h, if_pos h2]
/-- The two halves of symMerge behind its search and rotation, from what the search found. -/
def half1 (a b i : Nat) (s : St α) : St α := if a < i ∧ i < (a + b) / 2 then symMerge lt a i ((a + b) / 2) s else s
def half2 (a m b i : Nat) (s : St α) : St α := if (a + b) / 2 < (a + b) / 2 + m - i ∧ (a + b) / 2 + m - i < b then symMerge lt ((a + b) / 2) ((a + b) / 2 + m - i) b s else s
theorem symMerge_else (a m b : Nat) (s : St α) (h : ¬ m - a = 1) (h2 : ¬ b - m = 1) :
    symMerge lt a m b s = half2 lt a m b (bsC lt a m b s).1 (half1 lt a b (bsC lt a m b s).1 (turn a m b (bsC lt a m b s))) := by
  rw [symMerge, if_neg h, if_neg h2]
  simp only [half1, half2, dite_eq_ite]
theorem insBlocks_go (n a b : Nat) (s : St α) (h : b ≤ n) : insBlocks lt n a b s = insBlocks lt n b (b + 20) (insSort lt a b s) := by rw [insBlocks, if_pos h]
theorem insBlocks_stop (n a b : Nat) (s : St α) (h : ¬ b ≤ n) : insBlocks lt n a b s = insSort lt a n s := by rw [insBlocks, if_neg h]
theorem mergePass_go (n z a b : Nat) (s : St α) (hz : 0 < z) (h : b ≤ n) : mergePass lt n z a b s = mergePass lt n z b (b + 2 * z) (symMerge lt a (a + z) b s) := by
  rw [mergePass, dif_pos ⟨h, hz⟩]
theorem mergePass_last (n z a b : Nat) (s : St α) (h : ¬ b ≤ n) (h2 : a + z < n) : mergePass lt n z a b s = symMerge lt a (a + z) n s := by
  rw [mergePass, dif_neg (fun h' => h h'.1), if_pos h2]
theorem mergePass_stop (n z a b : Nat) (s : St α) (h : ¬ b ≤ n) (h2 : ¬ a + z < n) : mergePass lt n z a b s = s := by
  rw [mergePass, dif_neg (fun h' => h h'.1), if_neg h2]
theorem passes_go (n z : Nat) (s : St α) (hz : 0 < z) (h : z < n) : passes lt n z s = passes lt n (z * 2) (mergePass lt n z 0 (2 * z) s) := by
  rw [passes, dif_pos ⟨h, hz⟩]
theorem passes_stop (n z : Nat) (s : St α) (h : ¬ z < n) : passes lt n z s = s := by rw [passes, dif_neg (fun h' => h h'.1)]
end
end Go.Proofs.Ytdpomoengbpcaaa
