/-
  PLAIN: WHERE A VALUE ENDS.
-/
import Derived.Test.Qxb6619197aPlain
namespace Go.Proofs.Qxb6619197a.Pl

/-- What ends a bare value. -/
def stop (x : Int) : Bool := decide (x = 32 ∨ x = 9 ∨ x = 10 ∨ x = 13 ∨ x = 44 ∨ x = 125 ∨ x = 93)
theorem stop_yes {x : Int} (h : x = 32 ∨ x = 9 ∨ x = 10 ∨ x = 13 ∨ x = 44 ∨ x = 125 ∨ x = 93) : stop x = true := decide_eq_true h
theorem stop_no {x : Int} (h : ¬ (x = 32 ∨ x = 9 ∨ x = 10 ∨ x = 13 ∨ x = 44 ∨ x = 125 ∨ x = 93)) : stop x = false := decide_eq_false h

def vbF (g : Nat → Int) (n : Nat) : Nat → Nat → Nat
  | 0, k => k
  | f + 1, k => if k < n ∧ stop (g k) = false then vbF g n f (k + 1) else k
theorem vbF_fuel (g : Nat → Int) (n : Nat) : ∀ (f f' k : Nat), n ≤ f + k → n ≤ f' + k → vbF g n f k = vbF g n f' k
  | 0, 0, k, _, _ => rfl
  | 0, f' + 1, k, h, _ => by simp only [vbF]; rw [if_neg (by omega)]
  | f + 1, 0, k, _, h => by simp only [vbF]; rw [if_neg (by omega)]
  | f + 1, f' + 1, k, h, h' => by
    simp only [vbF]
    rw [vbF_fuel g n f f' (k + 1) (by omega) (by omega)]
/-- Where the bare value that begins at k ends. -/
def VB (g : Nat → Int) (n k : Nat) : Nat := vbF g n (n - k) k
theorem VB_out {g : Nat → Int} {n k : Nat} (h : n ≤ k) : VB g n k = k := by
  unfold VB
  rw [show n - k = 0 by omega]
  rfl
theorem VB_in {g : Nat → Int} {n k : Nat} (h : k < n) : VB g n k = if stop (g k) = false then VB g n (k + 1) else k := by
  unfold VB
  obtain ⟨f, hf⟩ : ∃ f, n - k = f + 1 := ⟨n - k - 1, by omega⟩
  rw [hf]
  simp only [vbF]
  rw [vbF_fuel g n f (n - (k + 1)) (k + 1) (by omega) (by omega)]
  by_cases hb : stop (g k) = false
  · rw [if_pos ⟨h, hb⟩, if_pos hb]
  · rw [if_neg (fun x => hb x.2), if_neg hb]
theorem VB_go {g : Nat → Int} {n k : Nat} (h : k < n) (e : stop (g k) = false) : VB g n k = VB g n (k + 1) := by rw [VB_in h, if_pos e]
theorem VB_stop {g : Nat → Int} {n k : Nat} (h : k < n) (e : stop (g k) = true) : VB g n k = k := by rw [VB_in h, if_neg (by simp [e])]

def vcF (g : Nat → Int) (n : Nat) : Nat → Nat → Nat → Nat
  | 0, _, k => k
  | f + 1, d, k =>
    if k < n then
      if g k = 34 then vcF g n f d (SE g n (k + 1))
      else if g k = 123 ∨ g k = 91 then vcF g n f (d + 1) (k + 1)
      else if g k = 125 ∨ g k = 93 then (if d = 1 then k + 1 else vcF g n f (d - 1) (k + 1))
      else vcF g n f d (k + 1)
    else k
theorem vcF_fuel (g : Nat → Int) (n : Nat) : ∀ (f f' d k : Nat), n ≤ f + k → n ≤ f' + k → vcF g n f d k = vcF g n f' d k
  | 0, 0, d, k, _, _ => rfl
  | 0, f' + 1, d, k, h, _ => by simp only [vcF]; rw [if_neg (by omega)]
  | f + 1, 0, d, k, _, h => by simp only [vcF]; rw [if_neg (by omega)]
  | f + 1, f' + 1, d, k, h, h' => by
    simp only [vcF]
    by_cases hk : k < n
    · have hs := (SE_bounds (g := g) (n := n) (k := k + 1) (by omega)).1
      rw [vcF_fuel g n f f' d (SE g n (k + 1)) (by omega) (by omega), vcF_fuel g n f f' (d + 1) (k + 1) (by omega) (by omega), vcF_fuel g n f f' (d - 1) (k + 1) (by omega) (by omega), vcF_fuel g n f f' d (k + 1) (by omega) (by omega)]
    · rw [if_neg hk, if_neg hk]
/-- Where the container ends, from place k at depth d on. -/
def VC (g : Nat → Int) (n d k : Nat) : Nat := vcF g n (n - k) d k
theorem VC_out {g : Nat → Int} {n d k : Nat} (h : n ≤ k) : VC g n d k = k := by
  unfold VC
  rw [show n - k = 0 by omega]
  rfl
theorem VC_in {g : Nat → Int} {n d k : Nat} (h : k < n) : VC g n d k =
      if g k = 34 then VC g n d (SE g n (k + 1))
      else if g k = 123 ∨ g k = 91 then VC g n (d + 1) (k + 1)
      else if g k = 125 ∨ g k = 93 then (if d = 1 then k + 1 else VC g n (d - 1) (k + 1))
      else VC g n d (k + 1) := by
  unfold VC
  obtain ⟨f, hf⟩ : ∃ f, n - k = f + 1 := ⟨n - k - 1, by omega⟩
  have hs := (SE_bounds (g := g) (n := n) (k := k + 1) (by omega)).1
  rw [hf]
  simp only [vcF]
  rw [if_pos h, vcF_fuel g n f (n - SE g n (k + 1)) d (SE g n (k + 1)) (by omega) (by omega), vcF_fuel g n f (n - (k + 1)) (d + 1) (k + 1) (by omega) (by omega), vcF_fuel g n f (n - (k + 1)) (d - 1) (k + 1) (by omega) (by omega), vcF_fuel g n f (n - (k + 1)) d (k + 1) (by omega) (by omega)]
theorem VC_quote {g : Nat → Int} {n d k : Nat} (h : k < n) (e : g k = 34) : VC g n d k = VC g n d (SE g n (k + 1)) := by rw [VC_in h, if_pos e]
theorem VC_open {g : Nat → Int} {n d k : Nat} (h : k < n) (e : g k = 123 ∨ g k = 91) : VC g n d k = VC g n (d + 1) (k + 1) := by rw [VC_in h, if_neg (by omega), if_pos e]
theorem VC_last {g : Nat → Int} {n k : Nat} (h : k < n) (e : g k = 125 ∨ g k = 93) : VC g n 1 k = k + 1 := by rw [VC_in h, if_neg (by omega), if_neg (by omega), if_pos e, if_pos rfl]
theorem VC_close {g : Nat → Int} {n d k : Nat} (h : k < n) (e : g k = 125 ∨ g k = 93) (hd : d ≠ 1) : VC g n d k = VC g n (d - 1) (k + 1) := by rw [VC_in h, if_neg (by omega), if_neg (by omega), if_pos e, if_neg hd]
theorem VC_other {g : Nat → Int} {n d k : Nat} (h : k < n) (e1 : g k ≠ 34) (e2 : ¬ (g k = 123 ∨ g k = 91)) (e3 : ¬ (g k = 125 ∨ g k = 93)) : VC g n d k = VC g n d (k + 1) := by
  rw [VC_in h, if_neg e1, if_neg e2, if_neg e3]

/-- Where the value that begins at k ends. -/
def VE (g : Nat → Int) (n k : Nat) : Nat := if g k = 34 then SE g n (k + 1) else if g k = 123 ∨ g k = 91 then VC g n 0 k else VB g n k
theorem VE_string {g : Nat → Int} {n k : Nat} (e : g k = 34) : VE g n k = SE g n (k + 1) := by unfold VE; rw [if_pos e]
theorem VE_box {g : Nat → Int} {n k : Nat} (e : g k = 123 ∨ g k = 91) : VE g n k = VC g n 0 k := by unfold VE; rw [if_neg (by omega), if_pos e]
theorem VE_bare {g : Nat → Int} {n k : Nat} (e1 : g k ≠ 34) (e2 : ¬ (g k = 123 ∨ g k = 91)) : VE g n k = VB g n k := by unfold VE; rw [if_neg e1, if_neg e2]

end Go.Proofs.Qxb6619197a.Pl
