/-
  PLAIN LAWS ON BYTES AND PLACES: no Go in sight. 'g : Nat → Int': the bytes of a text; 'n': its length.
-/
import Derived.KernelRfl
namespace Go.Proofs.Qxb6619197a.Pl

/-- Where the string whose inside begins at k ends (one past its closing quote; n or n + 1 where it is not closed). -/
def seF (g : Nat → Int) (n : Nat) : Nat → Nat → Nat
  | 0, k => k
  | f + 1, k => if k < n then (if g k = 92 then seF g n f (k + 2) else if g k = 34 then k + 1 else seF g n f (k + 1)) else k

theorem seF_fuel (g : Nat → Int) (n : Nat) : ∀ (f f' k : Nat), n ≤ f + k → n ≤ f' + k → seF g n f k = seF g n f' k
  | 0, 0, k, _, _ => rfl
  | 0, f' + 1, k, h, _ => by simp only [seF]; rw [if_neg (by omega)]
  | f + 1, 0, k, _, h => by simp only [seF]; rw [if_neg (by omega)]
  | f + 1, f' + 1, k, h, h' => by
    simp only [seF]
    rw [seF_fuel g n f f' (k + 2) (by omega) (by omega), seF_fuel g n f f' (k + 1) (by omega) (by omega)]

def SE (g : Nat → Int) (n k : Nat) : Nat := seF g n (n - k) k

theorem SE_out {g : Nat → Int} {n k : Nat} (h : n ≤ k) : SE g n k = k := by
  unfold SE
  rw [show n - k = 0 by omega]
  rfl
theorem SE_in {g : Nat → Int} {n k : Nat} (h : k < n) : SE g n k = if g k = 92 then SE g n (k + 2) else if g k = 34 then k + 1 else SE g n (k + 1) := by
  unfold SE
  obtain ⟨f, hf⟩ : ∃ f, n - k = f + 1 := ⟨n - k - 1, by omega⟩
  rw [hf]
  simp only [seF]
  rw [if_pos h, seF_fuel g n f (n - (k + 2)) (k + 2) (by omega) (by omega), seF_fuel g n f (n - (k + 1)) (k + 1) (by omega) (by omega)]
theorem SE_back {g : Nat → Int} {n k : Nat} (h : k < n) (e : g k = 92) : SE g n k = SE g n (k + 2) := by rw [SE_in h, if_pos e]
theorem SE_quote {g : Nat → Int} {n k : Nat} (h : k < n) (e : g k = 34) : SE g n k = k + 1 := by rw [SE_in h, if_neg (by omega), if_pos e]
theorem SE_other {g : Nat → Int} {n k : Nat} (h : k < n) (e1 : g k ≠ 92) (e2 : g k ≠ 34) : SE g n k = SE g n (k + 1) := by rw [SE_in h, if_neg e1, if_neg e2]

theorem seF_bounds (g : Nat → Int) (n : Nat) : ∀ (f k : Nat), k ≤ n + 1 → k ≤ seF g n f k ∧ seF g n f k ≤ n + 1
  | 0, k, h => ⟨Nat.le_refl _, h⟩
  | f + 1, k, h => by
    simp only [seF]
    by_cases h1 : k < n
    · rw [if_pos h1]
      have a := seF_bounds g n f (k + 2) (by omega)
      have b := seF_bounds g n f (k + 1) (by omega)
      split
      · omega
      · split <;> omega
    · rw [if_neg h1]; omega
theorem SE_bounds {g : Nat → Int} {n k : Nat} (h : k ≤ n + 1) : k ≤ SE g n k ∧ SE g n k ≤ n + 1 := seF_bounds g n _ k h

/-- The four blanks of JSON. -/
def blank (x : Int) : Bool := decide (x = 32 ∨ x = 9 ∨ x = 10 ∨ x = 13)
theorem blank_yes {x : Int} (h : x = 32 ∨ x = 9 ∨ x = 10 ∨ x = 13) : blank x = true := decide_eq_true h
theorem blank_no {x : Int} (h1 : x ≠ 32) (h2 : x ≠ 9) (h3 : x ≠ 10) (h4 : x ≠ 13) : blank x = false := decide_eq_false (by omega)
theorem blank_cases {x : Int} (h : blank x = true) : x = 32 ∨ x = 9 ∨ x = 10 ∨ x = 13 := of_decide_eq_true h

/-- The first place at k or behind it that holds no blank. -/
def skF (g : Nat → Int) (n : Nat) : Nat → Nat → Nat
  | 0, k => k
  | f + 1, k => if k < n ∧ blank (g k) = true then skF g n f (k + 1) else k
theorem skF_fuel (g : Nat → Int) (n : Nat) : ∀ (f f' k : Nat), n ≤ f + k → n ≤ f' + k → skF g n f k = skF g n f' k
  | 0, 0, k, _, _ => rfl
  | 0, f' + 1, k, h, _ => by simp only [skF]; rw [if_neg (by omega)]
  | f + 1, 0, k, _, h => by simp only [skF]; rw [if_neg (by omega)]
  | f + 1, f' + 1, k, h, h' => by
    simp only [skF]
    rw [skF_fuel g n f f' (k + 1) (by omega) (by omega)]
def SK (g : Nat → Int) (n k : Nat) : Nat := skF g n (n - k) k
theorem SK_out {g : Nat → Int} {n k : Nat} (h : n ≤ k) : SK g n k = k := by
  unfold SK
  rw [show n - k = 0 by omega]
  rfl
theorem SK_in {g : Nat → Int} {n k : Nat} (h : k < n) : SK g n k = if blank (g k) = true then SK g n (k + 1) else k := by
  unfold SK
  obtain ⟨f, hf⟩ : ∃ f, n - k = f + 1 := ⟨n - k - 1, by omega⟩
  rw [hf]
  simp only [skF]
  rw [skF_fuel g n f (n - (k + 1)) (k + 1) (by omega) (by omega)]
  by_cases hb : blank (g k) = true
  · rw [if_pos ⟨h, hb⟩, if_pos hb]
  · rw [if_neg (fun x => hb x.2), if_neg hb]
theorem SK_blank {g : Nat → Int} {n k : Nat} (h : k < n) (e : blank (g k) = true) : SK g n k = SK g n (k + 1) := by rw [SK_in h, if_pos e]
theorem SK_stop {g : Nat → Int} {n k : Nat} (h : k < n) (e : blank (g k) = false) : SK g n k = k := by rw [SK_in h, if_neg (by simp [e])]

/-- All that is passed over is blank; what it stops at is no blank. -/
theorem SK_spec (g : Nat → Int) (n : Nat) : ∀ (f k : Nat), n ≤ f + k → k ≤ SK g n k ∧ (k ≤ n → SK g n k ≤ n) ∧ (∀ j, k ≤ j → j < SK g n k → blank (g j) = true) ∧ (SK g n k < n → blank (g (SK g n k)) = false)
  | 0, k, h => by
    rw [SK_out (by omega)]
    exact ⟨by omega, fun _ => by omega, fun j a b => by omega, fun a => by omega⟩
  | f + 1, k, h => by
    by_cases hk : k < n
    · cases hb : blank (g k) with
      | false => rw [SK_stop hk hb]; exact ⟨by omega, fun _ => by omega, fun j a b => by omega, fun _ => hb⟩
      | true =>
        rw [SK_blank hk hb]
        obtain ⟨a, b, c, d⟩ := SK_spec g n f (k + 1) (by omega)
        refine ⟨by omega, fun _ => b (by omega), fun j h1 h2 => ?_, d⟩
        by_cases hj : j = k
        · subst hj; exact hb
        · exact c j (by omega) h2
    · rw [SK_out (by omega)]
      exact ⟨by omega, fun _ => by omega, fun j a b => by omega, fun a => by omega⟩
/-- Blanks up to r lead to where r leads. -/
theorem SK_over {g : Nat → Int} {n : Nat} : ∀ (d k r : Nat), r = k + d → r ≤ n → (∀ j, k ≤ j → j < r → blank (g j) = true) → SK g n k = SK g n r
  | 0, k, r, h, _, _ => by rw [h]; rfl
  | d + 1, k, r, h, hr, hb => by
    rw [SK_blank (by omega) (hb k (by omega) (by omega))]
    exact SK_over d (k + 1) r (by omega) hr (fun j a b => hb j (by omega) b)
/-- The same text further on. -/
theorem SK_shift {g g' : Nat → Int} {m : Nat} (p : Nat) (hg : ∀ j, j < m → g (p + j) = g' j) : ∀ (f k : Nat), m ≤ f + k → SK g (p + m) (p + k) = p + SK g' m k
  | 0, k, h => by rw [SK_out (by omega), SK_out (by omega)]
  | f + 1, k, h => by
    by_cases hk : k < m
    · cases hb : blank (g' k) with
      | false => rw [SK_stop (by omega) (by rw [hg k hk]; exact hb), SK_stop hk hb]
      | true =>
        rw [SK_blank (by omega) (by rw [hg k hk]; exact hb), SK_blank hk hb]
        exact SK_shift p hg f (k + 1) (by omega)
    · rw [SK_out (by omega), SK_out (by omega)]

/-- Quotes and backslashes escaped. -/
def esc : List Int → List Int
  | [] => []
  | x :: r => if x = 34 ∨ x = 92 then 92 :: x :: esc r else x :: esc r
theorem esc_append : ∀ (l r : List Int), esc (l ++ r) = esc l ++ esc r
  | [], r => rfl
  | x :: l, r => by
    simp only [List.cons_append, esc]
    rw [esc_append l r]
    split <;> rfl
/-- The opening quote and the first k bytes of S, escaped. -/
def E (S : List Int) (k : Nat) : List Int := 34 :: esc (S.take k)
theorem E_zero (S : List Int) : E S 0 = [34] := rfl
theorem E_succ (S : List Int) (k : Nat) (hk : k < S.length) : E S (k + 1) = E S k ++ esc [S.getD k 0] := by
  unfold E
  rw [List.take_succ_eq_append_getElem hk, esc_append]
  simp [List.getD, List.getElem?_eq_getElem hk]
theorem E_yes (S : List Int) (k : Nat) (hk : k < S.length) (h : S.getD k 0 = 34 ∨ S.getD k 0 = 92) : E S (k + 1) = E S k ++ [92] ++ [S.getD k 0] := by
  rw [E_succ S k hk]
  simp only [esc]
  rw [if_pos h]
  simp
theorem E_no (S : List Int) (k : Nat) (hk : k < S.length) (h1 : S.getD k 0 ≠ 34) (h2 : S.getD k 0 ≠ 92) : E S (k + 1) = E S k ++ [S.getD k 0] := by
  rw [E_succ S k hk]
  simp only [esc]
  rw [if_neg (by omega)]

/-- The bytes of a list. -/
def G (L : List Int) (j : Nat) : Int := L.getD j 0
theorem G_at (A : List Int) (x : Int) (B : List Int) : G (A ++ x :: B) A.length = x := by simp [G, List.getD]
theorem SE_esc : ∀ (S A B : List Int), SE (G (A ++ (esc S ++ 34 :: B))) (A ++ (esc S ++ 34 :: B)).length A.length = A.length + (esc S).length + 1
  | [], A, B => by
    simp only [esc, List.nil_append]
    rw [SE_quote (by simp) (G_at A 34 B)]
    simp
  | x :: r, A, B => by
    simp only [esc]
    by_cases h : x = 34 ∨ x = 92
    · rw [if_pos h]
      have e : A ++ (92 :: x :: esc r ++ 34 :: B) = (A ++ [92, x]) ++ (esc r ++ 34 :: B) := by simp
      have ih := SE_esc r (A ++ [92, x]) B
      rw [← e] at ih
      have hx : G (A ++ (92 :: x :: esc r ++ 34 :: B)) A.length = 92 := G_at A 92 _
      rw [SE_back (by simp) hx]
      rw [show (A ++ [92, x]).length = A.length + 2 from by simp] at ih
      rw [ih]
      simp; omega
    · rw [if_neg h]
      have e : A ++ (x :: esc r ++ 34 :: B) = (A ++ [x]) ++ (esc r ++ 34 :: B) := by simp
      have ih := SE_esc r (A ++ [x]) B
      rw [← e] at ih
      have hx : G (A ++ (x :: esc r ++ 34 :: B)) A.length = x := G_at A x _
      rw [SE_other (by simp) (by rw [hx]; omega) (by rw [hx]; omega)]
      rw [show (A ++ [x]).length = A.length + 1 from by simp] at ih
      rw [ih]
      simp; omega
/-- The written string, closed. -/
def F (S : List Int) : List Int := E S S.length ++ [34]
theorem F_eq (S : List Int) : F S = 34 :: (esc S ++ [34]) := by simp [F, E]
/-- In the whole text, and alone. -/
theorem SE_written (A S T : List Int) : SE (G (A ++ F S ++ T)) (A ++ F S ++ T).length (A.length + 1) = A.length + (F S).length := by
  have e : A ++ F S ++ T = (A ++ [34]) ++ (esc S ++ 34 :: T) := by simp [F_eq]
  have h := SE_esc S (A ++ [34]) T
  rw [← e, show (A ++ ([34] : List Int)).length = A.length + 1 from by simp] at h
  rw [h, F_eq]
  simp; omega

end Go.Proofs.Qxb6619197a.Pl
