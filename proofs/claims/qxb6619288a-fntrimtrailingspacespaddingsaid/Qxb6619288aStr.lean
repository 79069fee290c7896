/-
  STRINGS AND THEIR BYTES: spaces put behind a string, and what trimming leaves.
-/
import Derived.Test.Qxb6619288aPlain
import Derived.Laws.BytesArg
namespace Go.Proofs.Qxb6619288a.Pl

def spaces (n : Nat) : ByteArray := strOfNums (List.replicate n 32)
theorem spaces_size (n : Nat) : (spaces n).size = n := by unfold spaces; rw [strOfNums_size, List.length_replicate]
theorem spaces_at (n j : Nat) (h : j < n) : gs (spaces n) j = 32 := by
  rw [gs_at (by rw [spaces_size]; exact h)]
  simp [spaces, strOfNums, ByteArray.getElem_eq_getElem_data]
theorem gs_left (a b : ByteArray) (j : Nat) (h : j < a.size) : gs (a ++ b) j = gs a j := by
  rw [gs_at (by rw [ByteArray.size_append]; omega), gs_at h, ByteArray.getElem_append_left h]
theorem gs_right (a b : ByteArray) (j : Nat) (h1 : a.size ≤ j) (h2 : j < a.size + b.size) : gs (a ++ b) j = gs b (j - a.size) := by
  rw [gs_at (by rw [ByteArray.size_append]; exact h2), gs_at (by omega), ByteArray.getElem_append_right h1]
theorem pad_left (s : ByteArray) (n : Nat) : ∀ j, j < s.size → gs (s ++ spaces n) j = gs s j := fun j h => gs_left _ _ j h
theorem pad_right (s : ByteArray) (n : Nat) : ∀ j, s.size ≤ j → j < s.size + n → gs (s ++ spaces n) j = 32 := fun j h1 h2 => by
  rw [gs_right _ _ j h1 (by rw [spaces_size]; exact h2)]
  exact spaces_at n _ (by omega)
theorem pad_size (s : ByteArray) (n : Nat) : (s ++ spaces n).size = s.size + n := by rw [ByteArray.size_append, spaces_size]

theorem extract_left (a b : ByteArray) (c : Nat) (h : c ≤ a.size) : (a ++ b).extract 0 c = a.extract 0 c := by
  rw [ByteArray.extract_append, show c - a.size = 0 by omega, Nat.zero_sub, ByteArray.extract_same, ByteArray.append_empty]
theorem trim_space (s : ByteArray) (n : Nat) (hm : 0 < s.size) (hl : gs s (s.size - 1) = 32) :
    (s ++ spaces n).extract 0 (cut (gs (s ++ spaces n)) (s ++ spaces n).size) = s.extract 0 (cut (gs s) s.size) := by
  rw [pad_size, cut_padded_space (pad_left s n) (pad_right s n) hm hl]
  exact extract_left _ _ _ (cut_le _ _)
theorem one_space (n : Nat) (hn : 1 ≤ n) : (spaces n).extract 0 1 = ⟨#[32]⟩ := by
  apply ByteArray.ext_getElem
  · rw [ByteArray.size_extract, spaces_size]
    show min 1 n - 0 = 1
    omega
  · intro i hi hi'
    have h1 : i < 1 := by
      rw [ByteArray.size_extract, spaces_size] at hi
      omega
    obtain rfl : i = 0 := by omega
    rw [ByteArray.getElem_extract]
    simp [spaces, strOfNums, ByteArray.getElem_eq_getElem_data]
theorem trim_odd (s : ByteArray) (n : Nat) (hl : ¬ (0 < s.size ∧ gs s (s.size - 1) = 32)) (hn : 1 ≤ n) (ho : odd (gs s) s.size = true) :
    (s ++ spaces n).extract 0 (cut (gs (s ++ spaces n)) (s ++ spaces n).size) = s ++ ⟨#[32]⟩ := by
  rw [pad_size, cut_padded_odd (pad_left s n) (pad_right s n) hl hn ho, ByteArray.extract_append, Nat.zero_sub, show s.size + 1 - s.size = 1 by omega, one_space n hn]
  congr 1
  apply ByteArray.ext_getElem
  · rw [ByteArray.size_extract]; omega
  · intro i hi hi'
    rw [ByteArray.getElem_extract]
    simp
theorem trim_even (s : ByteArray) (n : Nat) (hl : ¬ (0 < s.size ∧ gs s (s.size - 1) = 32)) (ho : n = 0 ∨ odd (gs s) s.size = false) :
    (s ++ spaces n).extract 0 (cut (gs (s ++ spaces n)) (s ++ spaces n).size) = s := by
  rw [pad_size, cut_padded_even (pad_left s n) (pad_right s n) hl ho]
  exact ByteArray.extract_append_eq_left rfl

/-- The first k of n cells are spaces, the rest noughts. -/
def fill (n k : Nat) : List Int := List.replicate k 32 ++ List.replicate (n - k) 0
theorem fill_zero (n : Nat) : fill n 0 = List.replicate n 0 := by simp [fill]
theorem fill_all (n : Nat) : fill n n = List.replicate n 32 := by simp [fill]
theorem fill_set (n k : Nat) (h : k < n) : (fill n k).set k 32 = fill n (k + 1) := by
  unfold fill
  obtain ⟨d, hd⟩ : ∃ d, n - k = d + 1 := ⟨n - k - 1, by omega⟩
  rw [hd, show n - (k + 1) = d by omega, List.replicate_succ, List.replicate_succ', List.set_append_right _ _ (by simp)]
  simp

end Go.Proofs.Qxb6619288a.Pl
