/-
  PLAIN: RUNS OF BACKSLASHES, AND WHERE A STRING ENDS.
-/
import Derived.Test.Qxb6619197aPlain
namespace Go.Proofs.Qxb6619197a.Pl

/-- How many backslashes stand just before place q, counted not past i. -/
def bs (g : Nat → Int) (i : Nat) : Nat → Nat
  | 0 => 0
  | q + 1 => if i < q ∧ g q = 92 then bs g i q + 1 else 0
theorem bs_yes {g : Nat → Int} {i q : Nat} (h : i < q) (e : g q = 92) : bs g i (q + 1) = bs g i q + 1 := by
  simp only [bs]; rw [if_pos ⟨h, e⟩]
theorem bs_no {g : Nat → Int} {i q : Nat} (e : g q ≠ 92) : bs g i (q + 1) = 0 := by
  simp only [bs]; rw [if_neg (fun h => e h.2)]
theorem bs_at {g : Nat → Int} {i : Nat} : bs g i (i + 1) = 0 := by
  simp only [bs]; rw [if_neg (fun h => Nat.lt_irrefl _ h.1)]
theorem bs_le (g : Nat → Int) (i : Nat) : ∀ q, bs g i q ≤ q
  | 0 => Nat.le_refl _
  | q + 1 => by
    simp only [bs]
    have := bs_le g i q
    split <;> omega

/-- A quote behind an even run. -/
def closes (g : Nat → Int) (i q : Nat) : Prop := g q = 34 ∧ bs g i q % 2 = 0

theorem bs_two {g : Nat → Int} {i k : Nat} (hi : i < k) (he : bs g i k % 2 = 0) (e : g k = 92) : bs g i (k + 1) % 2 = 1 ∧ bs g i (k + 2) % 2 = 0 := by
  have h1 : bs g i (k + 1) = bs g i k + 1 := bs_yes hi e
  refine ⟨by omega, ?_⟩
  by_cases e2 : g (k + 1) = 92
  · have h2 : bs g i (k + 2) = bs g i (k + 1) + 1 := bs_yes (by omega) e2
    omega
  · have h2 : bs g i (k + 2) = 0 := bs_no e2
    omega

theorem SE_found {g : Nat → Int} {n i q : Nat} (hq : q < n) (hc : closes g i q) : ∀ (d k : Nat), q ≤ k + d → i < k → k ≤ q → bs g i k % 2 = 0 → (∀ j, k ≤ j → j < q → ¬ closes g i j) → SE g n k = q + 1
  | 0, k, hd, hi, hk, he, hno => by
    obtain rfl : k = q := by omega
    exact SE_quote hq hc.1
  | d + 1, k, hd, hi, hk, he, hno => by
    by_cases hkq : k = q
    · subst hkq
      exact SE_quote hq hc.1
    · by_cases e1 : g k = 92
      · obtain ⟨o1, o2⟩ := bs_two hi he e1
        have hne : q ≠ k + 1 := fun x => by subst x; have := hc.2; omega
        rw [SE_back (by omega) e1]
        exact SE_found hq hc d (k + 2) (by omega) (by omega) (by omega) o2 (fun j a b => hno j (by omega) b)
      · by_cases e2 : g k = 34
        · exact absurd ⟨e2, he⟩ (hno k (Nat.le_refl _) (by omega))
        · rw [SE_other (by omega) e1 e2]
          exact SE_found hq hc d (k + 1) (by omega) (by omega) (by omega) (by rw [bs_no e1]) (fun j a b => hno j (by omega) b)

theorem SE_none {g : Nat → Int} {n i : Nat} : ∀ (d k : Nat), n ≤ k + d → i < k → k ≤ n → bs g i k % 2 = 0 → (∀ j, k ≤ j → j < n → ¬ closes g i j) → SE g n k = n + bs g i n % 2
  | 0, k, hd, hi, hk, he, hno => by
    obtain rfl : k = n := by omega
    rw [SE_out (Nat.le_refl _)]
    omega
  | d + 1, k, hd, hi, hk, he, hno => by
    by_cases hkn : k = n
    · subst hkn
      rw [SE_out (Nat.le_refl _)]
      omega
    · by_cases e1 : g k = 92
      · obtain ⟨o1, o2⟩ := bs_two hi he e1
        rw [SE_back (by omega) e1]
        by_cases hl : k + 1 = n
        · rw [SE_out (by omega)]
          rw [hl] at o1
          omega
        · exact SE_none d (k + 2) (by omega) (by omega) (by omega) o2 (fun j a b => hno j (by omega) b)
      · by_cases e2 : g k = 34
        · exact absurd ⟨e2, he⟩ (hno k (Nat.le_refl _) (by omega))
        · rw [SE_other (by omega) e1 e2]
          exact SE_none d (k + 1) (by omega) (by omega) (by omega) (by rw [bs_no e1]) (fun j a b => hno j (by omega) b)

theorem SE_model_found {g : Nat → Int} {n i q : Nat} (hi : i < q) (hq : q < n) (h1 : g q = 34) (h2 : bs g i q % 2 = 0) (hno : ∀ j, i < j → j < q → ¬ closes g i j) : SE g n (i + 1) = q + 1 :=
  SE_found hq ⟨h1, h2⟩ (q - (i + 1)) (i + 1) (by omega) (by omega) (by omega) (by rw [bs_at]) (fun j a b => hno j (by omega) b)
theorem SE_model_none {g : Nat → Int} {n i : Nat} (hi : i < n) (hno : ∀ j, i < j → j < n → ¬ closes g i j) : SE g n (i + 1) = n + bs g i n % 2 :=
  SE_none (n - (i + 1)) (i + 1) (by omega) (by omega) (by omega) (by rw [bs_at]) (fun j a b => hno j (by omega) b)

/-- The text cut at c. -/
theorem SE_cut {g : Nat → Int} {n c : Nat} (hc : c ≤ n) : ∀ (d k : Nat), c ≤ k + d → k ≤ c + 1 → (SE g n k ≤ c → SE g c k = SE g n k) ∧ (c < SE g n k → c ≤ SE g c k)
  | 0, k, hd, hk => by
    have h := (SE_bounds (g := g) (n := n) (k := k) (by omega)).1
    have e : SE g c k = k := SE_out (by omega)
    omega
  | d + 1, k, hd, hk => by
    by_cases hkc : c ≤ k
    · have h := (SE_bounds (g := g) (n := n) (k := k) (by omega)).1
      have e : SE g c k = k := SE_out hkc
      omega
    · by_cases e1 : g k = 92
      · rw [SE_back (n := n) (by omega) e1, SE_back (n := c) (by omega) e1]
        exact SE_cut hc d (k + 2) (by omega) (by omega)
      · by_cases e2 : g k = 34
        · rw [SE_quote (n := n) (by omega) e2, SE_quote (n := c) (by omega) e2]
          omega
        · rw [SE_other (n := n) (by omega) e1 e2, SE_other (n := c) (by omega) e1 e2]
          exact SE_cut hc d (k + 1) (by omega) (by omega)

end Go.Proofs.Qxb6619197a.Pl
