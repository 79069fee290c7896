/-
  PLAIN LAWS ON BYTES AND PLACES: spaces that end a text, runs of backslashes, where the text is cut. 'g : Nat → Int': the bytes; 'n': the length.
-/
import Derived.KernelRfl
namespace Go.Proofs.Qxb6619288a.Pl

/-- The length without the spaces that end it. -/
def te (g : Nat → Int) : Nat → Nat
  | 0 => 0
  | n + 1 => if g n = 32 then te g n else n + 1
/-- How many backslashes stand just before place n. -/
def bsr (g : Nat → Int) : Nat → Nat
  | 0 => 0
  | n + 1 => if g n = 92 then bsr g n + 1 else 0
def odd (g : Nat → Int) (n : Nat) : Bool := bsr g n % 2 == 1
/-- Where the text is cut. -/
def cut (g : Nat → Int) (n : Nat) : Nat := if odd g (te g n) = true ∧ te g n < n then te g n + 1 else te g n
def good (g : Nat → Int) (n k : Nat) : Bool := decide (te g n ≤ k) && (decide (k = n) || !odd g k)

theorem te_yes {g : Nat → Int} {n : Nat} (h : g n = 32) : te g (n + 1) = te g n := by simp only [te]; rw [if_pos h]
theorem te_no {g : Nat → Int} {n : Nat} (h : g n ≠ 32) : te g (n + 1) = n + 1 := by simp only [te]; rw [if_neg h]
theorem te_le (g : Nat → Int) : ∀ n, te g n ≤ n
  | 0 => Nat.le_refl _
  | n + 1 => by
    simp only [te]
    have := te_le g n
    split <;> omega
theorem te_spaces (g : Nat → Int) : ∀ n j, te g n ≤ j → j < n → g j = 32
  | 0, j, _, h => by omega
  | n + 1, j, h1, h2 => by
    by_cases e : g n = 32
    · rw [te_yes e] at h1
      by_cases hj : j = n
      · rw [hj]; exact e
      · exact te_spaces g n j h1 (by omega)
    · rw [te_no e] at h1
      omega
theorem te_last (g : Nat → Int) : ∀ n m, te g n = m + 1 → g m ≠ 32
  | 0, m, h => by simp [te] at h
  | n + 1, m, h => by
    by_cases e : g n = 32
    · rw [te_yes e] at h
      exact te_last g n m h
    · rw [te_no e] at h
      obtain rfl : n = m := by omega
      exact e
/-- All spaces from k on: the cut lies at k or before it. -/
theorem te_of_spaces (g : Nat → Int) : ∀ n k, k ≤ n → (∀ j, k ≤ j → j < n → g j = 32) → te g n ≤ k
  | 0, k, _, _ => by simp [te]
  | n + 1, k, hk, h => by
    by_cases e : k = n + 1
    · rw [e]; exact te_le _ _
    · rw [te_yes (h n (by omega) (by omega))]
      exact te_of_spaces g n k (by omega) (fun j a b => h j a (by omega))
theorem te_gt (g : Nat → Int) {n j : Nat} (hj : j < n) (h : g j ≠ 32) : j < te g n := by
  rcases Nat.lt_or_ge j (te g n) with a | a
  · exact a
  · exact absurd (te_spaces g n j a hj) h

theorem odd_zero (g : Nat → Int) : odd g 0 = false := rfl
theorem odd_yes {g : Nat → Int} {n : Nat} (h : g n = 92) : odd g (n + 1) = !odd g n := by
  unfold odd
  simp only [bsr]
  rw [if_pos h]
  rcases Nat.mod_two_eq_zero_or_one (bsr g n) with a | a
  · rw [show (bsr g n + 1) % 2 = 1 by omega, a]; rfl
  · rw [show (bsr g n + 1) % 2 = 0 by omega, a]; rfl
theorem odd_no {g : Nat → Int} {n : Nat} (h : g n ≠ 92) : odd g (n + 1) = false := by
  unfold odd
  simp only [bsr]
  rw [if_neg h]
  rfl
theorem bsr_yes {g : Nat → Int} {n : Nat} (h : g n = 92) : bsr g (n + 1) = bsr g n + 1 := by simp only [bsr]; rw [if_pos h]
theorem bsr_no {g : Nat → Int} {n : Nat} (h : g n ≠ 92) : bsr g (n + 1) = 0 := by simp only [bsr]; rw [if_neg h]
theorem bsr_le (g : Nat → Int) : ∀ n, bsr g n ≤ n
  | 0 => Nat.le_refl _
  | n + 1 => by
    simp only [bsr]
    have := bsr_le g n
    split <;> omega
theorem cut_le (g : Nat → Int) (n : Nat) : cut g n ≤ n := by
  unfold cut
  have := te_le g n
  split <;> omega
theorem cut_yes {g : Nat → Int} {n : Nat} (h1 : odd g (te g n) = true) (h2 : te g n < n) : cut g n = te g n + 1 := by unfold cut; rw [if_pos ⟨h1, h2⟩]
theorem cut_no {g : Nat → Int} {n : Nat} (h : ¬ (odd g (te g n) = true ∧ te g n < n)) : cut g n = te g n := by unfold cut; rw [if_neg h]

/-- The cut is a good one. -/
theorem good_cut (g : Nat → Int) (n : Nat) : good g n (cut g n) = true := by
  unfold good
  by_cases h : odd g (te g n) = true ∧ te g n < n
  · rw [cut_yes h.1 h.2, odd_no (by rw [te_spaces g n _ (Nat.le_refl _) h.2]; decide)]
    simp
  · rw [cut_no h]
    by_cases e : te g n = n
    · simp [e]
    · have h1 : odd g (te g n) = false := by
        have := te_le g n
        cases q : odd g (te g n) with
        | false => rfl
        | true => exact absurd ⟨q, by omega⟩ h
      simp [h1]
/-- No shorter one is. -/
theorem good_below (g : Nat → Int) (n j : Nat) (h : j < cut g n) : good g n j = false := by
  unfold good
  by_cases c : odd g (te g n) = true ∧ te g n < n
  · rw [cut_yes c.1 c.2] at h
    by_cases e : j = te g n
    · subst e
      have : te g n ≠ n := by omega
      simp [c.1, this]
    · have : ¬ te g n ≤ j := by omega
      simp [this]
  · rw [cut_no c] at h
    have : ¬ te g n ≤ j := by omega
    simp [this]
theorem good_false {g : Nat → Int} {n k j : Nat} (hkj : k ≤ j) (hj : j < n) (h : g j ≠ 32) : good g n k = false := by
  unfold good
  have := te_gt g hj h
  have : ¬ te g n ≤ k := by omega
  simp [this]
theorem good_all {g : Nat → Int} {n k : Nat} (hk : k ≤ n) (h : ∀ j, k ≤ j → j < n → g j = 32) : good g n k = (decide (k = n) || !odd g k) := by
  unfold good
  have := te_of_spaces g n k hk h
  simp [this]

/-- Spaces put behind a text. -/
theorem te_pad {g g' : Nat → Int} {m : Nat} (hg : ∀ j, j < m → g' j = g j) : ∀ k, k ≤ m → te g' k = te g k
  | 0, _ => rfl
  | k + 1, h => by simp only [te]; rw [hg k (by omega), te_pad hg k (by omega)]
theorem bsr_pad {g g' : Nat → Int} {m : Nat} (hg : ∀ j, j < m → g' j = g j) : ∀ k, k ≤ m → bsr g' k = bsr g k
  | 0, _ => rfl
  | k + 1, h => by simp only [bsr]; rw [hg k (by omega), bsr_pad hg k (by omega)]
theorem odd_pad {g g' : Nat → Int} {m k : Nat} (hg : ∀ j, j < m → g' j = g j) (hk : k ≤ m) : odd g' k = odd g k := by unfold odd; rw [bsr_pad hg k hk]
theorem te_padded {g g' : Nat → Int} {m : Nat} (hg : ∀ j, j < m → g' j = g j) : ∀ n, (∀ j, m ≤ j → j < m + n → g' j = 32) → te g' (m + n) = te g m
  | 0, _ => te_pad hg m (Nat.le_refl _)
  | n + 1, h => by
    rw [show m + (n + 1) = m + n + 1 by omega, te_yes (h (m + n) (by omega) (by omega))]
    exact te_padded hg n (fun j a b => h j a (by omega))
theorem cut_padded_space {g g' : Nat → Int} {m n : Nat} (hg : ∀ j, j < m → g' j = g j) (hs : ∀ j, m ≤ j → j < m + n → g' j = 32) (hm : 0 < m) (hl : g (m - 1) = 32) : cut g' (m + n) = cut g m := by
  have e := te_padded hg n hs
  have hlt : te g m < m := by
    obtain ⟨q, rfl⟩ : ∃ q, m = q + 1 := ⟨m - 1, by omega⟩
    rw [te_yes (n := q) hl]
    have := te_le g q
    omega
  have ho := odd_pad hg (k := te g m) (by omega)
  unfold cut
  rw [e, ho]
  by_cases c : odd g (te g m) = true
  · rw [if_pos ⟨c, by omega⟩, if_pos ⟨c, hlt⟩]
  · rw [if_neg (fun x => c x.1), if_neg (fun x => c x.1)]
theorem te_full {g : Nat → Int} {m : Nat} (h : ¬ (0 < m ∧ g (m - 1) = 32)) : te g m = m := by
  cases m with
  | zero => rfl
  | succ q => exact te_no (fun e => h ⟨by omega, e⟩)
theorem cut_padded_odd {g g' : Nat → Int} {m n : Nat} (hg : ∀ j, j < m → g' j = g j) (hs : ∀ j, m ≤ j → j < m + n → g' j = 32) (hl : ¬ (0 < m ∧ g (m - 1) = 32)) (hn : 1 ≤ n) (ho : odd g m = true) : cut g' (m + n) = m + 1 := by
  have e := te_padded hg n hs
  rw [te_full hl] at e
  have ho' := odd_pad hg (Nat.le_refl m)
  rw [cut_yes (by rw [e, ho', ho]) (by omega), e]
theorem cut_padded_even {g g' : Nat → Int} {m n : Nat} (hg : ∀ j, j < m → g' j = g j) (hs : ∀ j, m ≤ j → j < m + n → g' j = 32) (hl : ¬ (0 < m ∧ g (m - 1) = 32)) (ho : n = 0 ∨ odd g m = false) : cut g' (m + n) = m := by
  have e := te_padded hg n hs
  rw [te_full hl] at e
  have ho' := odd_pad hg (Nat.le_refl m)
  rw [cut_no (by
    rw [e, ho']
    rintro ⟨a, b⟩
    rcases ho with c | c
    · omega
    · rw [c] at a; cases a), e]

/-- The bytes of a string. -/
def gs (s : ByteArray) (k : Nat) : Int := if h : k < s.size then ((s[k]'h).toNat : Int) else 0
theorem gs_at {s : ByteArray} {k : Nat} (h : k < s.size) : gs s k = ((s[k]'h).toNat : Int) := by unfold gs; rw [dif_pos h]

end Go.Proofs.Qxb6619288a.Pl
