/-
  PLAIN: A RUN OF BLANKS BEFORE A TEXT.
-/
import Derived.Test.Qxb6619197aPlain
namespace Go.Proofs.Qxb6619197a.Pl

/-- Any byte onto one of the four blanks. -/
def blankOf (x : Int) : Int := if x % 4 = 0 then 32 else if x % 4 = 1 then 9 else if x % 4 = 2 then 10 else 13
theorem blank_of (x : Int) : blank (blankOf x) = true := by
  unfold blankOf
  split
  · rfl
  · split
    · rfl
    · split <;> rfl
def pads (A : List Int) (k : Nat) : List Int := (A.take k).map blankOf
theorem pads_zero (A : List Int) : pads A 0 = [] := rfl
theorem G_left (A B : List Int) (j : Nat) (h : j < A.length) : G (A ++ B) j = G A j := by
  unfold G
  simp only [List.getD_eq_getElem?_getD]
  rw [List.getElem?_append_left h]
theorem G_right (A B : List Int) (j : Nat) : G (A ++ B) (A.length + j) = G B j := by
  unfold G
  simp only [List.getD_eq_getElem?_getD]
  rw [List.getElem?_append_right (by omega)]
  simp
theorem pads_succ (A : List Int) (k : Nat) (hk : k < A.length) : pads A (k + 1) = pads A k ++ [blankOf (A.getD k 0)] := by
  unfold pads
  rw [List.take_succ_eq_append_getElem hk, List.getD_eq_getElem?_getD, List.getElem?_eq_getElem hk, List.map_append]
  rfl
theorem SK_padded (A W : List Int) (i : Nat) (hi : i ≤ A.length) : SK (G (pads A A.length ++ W)) (A.length + W.length) i = A.length + SK (G W) W.length 0 := by
  have hl : (pads A A.length).length = A.length := by simp [pads]
  rw [SK_over (A.length - i) i A.length (by omega) (by omega) ?_]
  · have h := SK_shift (g := G (pads A A.length ++ W)) (g' := G W) (m := W.length) A.length ?_ W.length 0 (by omega)
    · exact h
    · intro j _
      have e := G_right (pads A A.length) W j
      rw [hl] at e
      exact e
  · intro j _ hj
    rw [G_left _ _ _ (by omega)]
    unfold G pads
    simp [hj, blank_of]
end Go.Proofs.Qxb6619197a.Pl
