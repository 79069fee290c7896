/-
  PLAIN: A VALUE WRITTEN PIECE BY PIECE, AND WHERE IT ENDS.
-/
import Derived.Test.Qxb6619197aVal
namespace Go.Proofs.Qxb6619197a.Pl

/-- L begins a container and stands at depth d behind its last byte, whatever lies around it. -/
def Open (L : List Int) (d : Nat) : Prop := ∀ A B : List Int, (G (A ++ L ++ B) A.length = 123 ∨ G (A ++ L ++ B) A.length = 91) ∧
  VC (G (A ++ L ++ B)) (A ++ L ++ B).length 0 A.length = VC (G (A ++ L ++ B)) (A ++ L ++ B).length d (A.length + L.length)
/-- Over X the depth goes from d to e. -/
def Piece (X : List Int) (d e : Nat) : Prop := ∀ A B : List Int,
  VC (G (A ++ X ++ B)) (A ++ X ++ B).length d A.length = VC (G (A ++ X ++ B)) (A ++ X ++ B).length e (A.length + X.length)
/-- L is a whole value: whatever lies before it, and whatever begins with a stop behind it: it ends at its own end. -/
def Done (L : List Int) : Prop := ∀ (A : List Int) (x : Int) (T : List Int), stop x = true → VE (G (A ++ L ++ x :: T)) (A ++ L ++ x :: T).length A.length = A.length + L.length
/-- What holds while the value is written. -/
def Inv (L : List Int) (d : Nat) : Prop := (L = [] ∧ d = 0) ∨ (1 ≤ d ∧ Open L d)

theorem G_mid (A X B : List Int) (h : 0 < X.length) : G (A ++ X ++ B) A.length = X.getD 0 0 := by
  cases X with
  | nil => simp at h
  | cons x X =>
    rw [List.append_assoc, List.cons_append, G_at]
    rfl
theorem lt_mid (A X B : List Int) (h : 0 < X.length) : A.length < (A ++ X ++ B).length := by simp; omega

theorem Piece.append {X Y : List Int} {d e f : Nat} (h : Piece X d e) (k : Piece Y e f) : Piece (X ++ Y) d f := by
  intro A B
  have h1 := h A (Y ++ B)
  have h2 := k (A ++ X) B
  have e1 : A ++ X ++ (Y ++ B) = A ++ (X ++ Y) ++ B := by simp
  have e2 : A ++ X ++ Y ++ B = A ++ (X ++ Y) ++ B := by simp
  rw [e1] at h1
  rw [e2, show (A ++ X).length = A.length + X.length from List.length_append] at h2
  rw [h1, h2, show (X ++ Y).length = X.length + Y.length from List.length_append, Nat.add_assoc]
theorem Open.append {L X : List Int} {d e : Nat} (h : Open L d) (k : Piece X d e) : Open (L ++ X) e := by
  intro A B
  have h1 := h A (X ++ B)
  have h2 := k (A ++ L) B
  have e1 : A ++ L ++ (X ++ B) = A ++ (L ++ X) ++ B := by simp
  have e2 : A ++ L ++ X ++ B = A ++ (L ++ X) ++ B := by simp
  rw [e1] at h1
  rw [e2, show (A ++ L).length = A.length + L.length from List.length_append] at h2
  exact ⟨h1.1, by rw [h1.2, h2, show (L ++ X).length = L.length + X.length from List.length_append, Nat.add_assoc]⟩

theorem Piece.nil (d : Nat) : Piece [] d d := fun A B => by simp
theorem Piece.one {x : Int} {d : Nat} (h1 : x ≠ 34) (h2 : ¬ (x = 123 ∨ x = 91)) (h3 : ¬ (x = 125 ∨ x = 93)) : Piece [x] d d := by
  intro A B
  have e : G (A ++ [x] ++ B) A.length = x := by rw [G_mid _ _ _ (by simp)]; rfl
  rw [VC_other (lt_mid A [x] B (by simp)) (by rw [e]; exact h1) (by rw [e]; exact h2) (by rw [e]; exact h3)]
  simp
def dull (x : Int) : Bool := decide (x ≠ 34 ∧ ¬ (x = 123 ∨ x = 91) ∧ ¬ (x = 125 ∨ x = 93))
theorem Piece.plain {d : Nat} : ∀ (X : List Int), X.all dull = true → Piece X d d
  | [], _ => Piece.nil d
  | x :: X, h => by
    rw [List.all_cons, Bool.and_eq_true] at h
    obtain ⟨a, b, c⟩ := of_decide_eq_true h.1
    exact (Piece.one a b c).append (Piece.plain X h.2)
theorem Piece.opens {x : Int} {d : Nat} (h : x = 123 ∨ x = 91) : Piece [x] d (d + 1) := by
  intro A B
  have e : G (A ++ [x] ++ B) A.length = x := by rw [G_mid _ _ _ (by simp)]; rfl
  rw [VC_open (lt_mid A [x] B (by simp)) (by rw [e]; exact h)]
  simp
theorem Piece.closes {x : Int} {d : Nat} (h : x = 125 ∨ x = 93) (hd : d ≠ 1) : Piece [x] d (d - 1) := by
  intro A B
  have e : G (A ++ [x] ++ B) A.length = x := by rw [G_mid _ _ _ (by simp)]; rfl
  rw [VC_close (lt_mid A [x] B (by simp)) (by rw [e]; exact h) hd]
  simp
theorem F_pos (S : List Int) : 0 < (F S).length := by rw [F_eq]; simp
theorem F_head (A S B : List Int) : G (A ++ F S ++ B) A.length = 34 := by rw [G_mid _ _ _ (F_pos S), F_eq]; rfl
theorem Piece.str (S : List Int) (d : Nat) : Piece (F S) d d := by
  intro A B
  rw [VC_quote (lt_mid A (F S) B (F_pos S)) (F_head A S B), SE_written]
theorem Open.start {x : Int} (h : x = 123 ∨ x = 91) : Open [x] 1 := by
  intro A B
  have e : G (A ++ [x] ++ B) A.length = x := by rw [G_mid _ _ _ (by simp)]; rfl
  exact ⟨by rw [e]; exact h, Piece.opens h A B⟩

theorem Done.close {L : List Int} {x : Int} (h : Open L 1) (hx : x = 125 ∨ x = 93) : Done (L ++ [x]) := by
  intro A y T _
  have h1 := h A (x :: y :: T)
  have e1 : A ++ L ++ x :: y :: T = A ++ (L ++ [x]) ++ y :: T := by simp
  have e : G (A ++ (L ++ [x]) ++ y :: T) (A.length + L.length) = x := by
    rw [← e1, ← List.length_append]
    exact G_at (A ++ L) x _
  rw [e1] at h1
  rw [VE_box h1.1, h1.2, VC_last (by simp) (by rw [e]; exact hx)]
  simp; omega
theorem Done.str (S : List Int) : Done (F S) := by
  intro A y T _
  rw [VE_string (F_head A S _), SE_written]
theorem VB_over : ∀ (X A B : List Int), (∀ x ∈ X, stop x = false) → VB (G (A ++ X ++ B)) (A ++ X ++ B).length A.length = VB (G (A ++ X ++ B)) (A ++ X ++ B).length (A.length + X.length)
  | [], A, B, _ => by simp
  | x :: X, A, B, h => by
    have e : G (A ++ (x :: X) ++ B) A.length = x := by rw [G_mid _ _ _ (by simp)]; rfl
    rw [VB_go (lt_mid A (x :: X) B (by simp)) (by rw [e]; exact h x (List.mem_cons_self ..))]
    have ih := VB_over X (A ++ [x]) B (fun y hy => h y (List.mem_cons_of_mem _ hy))
    have e2 : A ++ [x] ++ X ++ B = A ++ (x :: X) ++ B := by simp
    rw [e2, show (A ++ [x]).length = A.length + 1 from by simp] at ih
    rw [ih]
    congr 1
    simp; omega
theorem Done.bare {X : List Int} (hl : 0 < X.length) (h1 : X.getD 0 0 ≠ 34) (h2 : ¬ (X.getD 0 0 = 123 ∨ X.getD 0 0 = 91)) (h : ∀ x ∈ X, stop x = false) : Done X := by
  intro A y T hy
  have e : G (A ++ X ++ y :: T) A.length = X.getD 0 0 := G_mid _ _ _ hl
  have e2 : G (A ++ X ++ y :: T) (A.length + X.length) = y := by
    rw [← List.length_append]
    exact G_at (A ++ X) y T
  rw [VE_bare (by rw [e]; exact h1) (by rw [e]; exact h2), VB_over X A _ h, VB_stop (by simp) (by rw [e2]; exact hy)]

/-! ### The pieces that are written -/
theorem Piece.comma (d : Nat) : Piece [44, 32] d d := Piece.plain _ rfl
theorem key_eq : [34, 107, 34, 58, 32] = F [107] ++ [58, 32] := rfl
theorem Piece.key (d : Nat) : Piece [34, 107, 34, 58, 32] d d := by
  rw [key_eq]
  exact (Piece.str [107] d).append (Piece.plain _ rfl)
theorem Piece.num (d : Nat) : Piece [45, 49, 50, 46, 53, 101, 51] d d := Piece.plain _ rfl
theorem Piece.lit (d : Nat) : Piece [116, 114, 117, 101] d d := Piece.plain _ rfl
theorem Done.num : Done [45, 49, 50, 46, 53, 101, 51] := Done.bare (by simp) (by decide) (by decide) (by decide)
theorem Done.lit : Done [116, 114, 117, 101] := Done.bare (by simp) (by decide) (by decide) (by decide)
theorem Done.empty : Done [123, 125] := Done.close (Open.start (.inl rfl)) (.inl rfl)
theorem F_plain {c : Int} (h1 : c ≠ 34) (h2 : c ≠ 92) : F [c] = [34] ++ [c, 34] := by
  rw [F_eq]
  simp only [esc]
  rw [if_neg (by omega)]
  rfl
theorem F_esc {c : Int} (h : c = 34 ∨ c = 92) : F [c] = [34] ++ [92] ++ [c, 34] := by
  rw [F_eq]
  simp only [esc]
  rw [if_pos h]
  rfl

end Go.Proofs.Qxb6619197a.Pl
