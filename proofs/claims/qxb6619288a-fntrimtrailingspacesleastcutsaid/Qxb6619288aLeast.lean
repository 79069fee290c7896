/-
  THE WALKS OF 'goodCut' AND 'FnTrimTrailingSpacesLeastCut'.
-/
import Derived.Test.Qxb6619288aWalkA
namespace Go.Proofs.Qxb6619288a
open Go.RowKit

set_option maxHeartbeats 1000000 in
theorem good_any (s : ByteArray) (k : Int) (w : World) (hs : s.size ≤ 1099511627776) (h0 : 0 ≤ k) (hk : k ≤ s.size) (R : Bool) (hR : Pl.good (Pl.gs s) s.size k.toNat = R) :
    Calls Try.prog 10 #[.string s, .int .i64 k] w fun e w' => e = .returned (.bool R) ∧ w = w' := by
  obtain ⟨k, rfl⟩ := Int.eq_ofNat_of_zero_le h0
  rw [Int.toNat_natCast] at hR
  have HR : Hid (Pl.good (Pl.gs s) s.size k = R) := hR
  clear hR h0
  have hk' : k ≤ s.size := by omega
  clear hk
  go_enter Try.func10, Try.ntmps10
  go_wp2
  go_loop [5] (fun t => ∃ m : Nat, k ≤ m ∧ m ≤ s.size ∧ t = .int .i64 m ∧ Hid (∀ j, k ≤ j → j < m → Pl.gs s j = 32)) (fun t => s.size - (intOf t).toNat)
  case atStart => exact ⟨k, Nat.le_refl _, hk', rfl, fun j a b => by omega⟩
  case round =>
    obtain ⟨m, hm1, hm2, rfl, hsp⟩ := hrel
    by_cases hlt : m < s.size
    · by_cases c : Pl.gs s m = 32
      · have f : (((s[m]'hlt).toNat : Int) != 32) = false := by rw [← Pl.gs_at hlt]; simp [c]
        have HN : Hid (∀ j, k ≤ j → j < m + 1 → Pl.gs s j = 32) := fun j a b => by
          by_cases e : j = m
          · rw [e]; exact c
          · exact hsp.out j a (by omega)
        clear c hsp HR
        go_wp2
        go_round
        case rel => exact ⟨m + 1, by omega, by omega, by go_num, HN⟩
        case measure => simp [intOf]; omega
      · have f : (((s[m]'hlt).toNat : Int) != 32) = true := by rw [← Pl.gs_at hlt, bne_iff_ne]; exact c
        have HN : Hid (false = R) := by
          have e := HR.out
          rw [Pl.good_false hm1 hlt c] at e
          exact e
        clear c hsp HR
        go_wp2
        go_ret
        exact ⟨by rw [← HN.out]; rfl, rfl⟩
    · have HE : Hid ((decide (k = s.size) || !Pl.odd (Pl.gs s) k) = R) := by
        have e := HR.out
        rw [Pl.good_all hk' (fun j a b => hsp.out j a (by omega))] at e
        exact e
      clear hsp HR
      by_cases hks : k = s.size
      · have HN : Hid (true = R) := by
          have e := HE.out
          rw [decide_eq_true hks] at e
          exact e
        have e1 : ((k : Int) == (s.size : Int)) = true := by simp; omega
        clear HE hks
        go_wp2
        go_ret
        exact ⟨by rw [← HN.out]; rfl, rfl⟩
      · have HN : Hid ((!Pl.odd (Pl.gs s) ((k : Int).toNat)) = R) := by
          have e := HE.out
          rw [decide_eq_false hks] at e
          rw [Int.toNat_natCast]
          exact e
        have e1 : ((k : Int) == (s.size : Int)) = false := by simp; omega
        clear HE hks
        go_wp2_with fail
        refine (odd_any s _ _ hs (by omega) (by omega)).mono ?_
        rintro e w' ⟨rfl, rfl⟩
        go_wp2_with fail
        go_ret
        exact ⟨by rw [← HN.out]; rfl, rfl⟩

theorem bytes8_yes (s : ByteArray) (w : World) (h : s.size ≤ 1048576) :
    Calls Try.prog 8 #[.string s] w fun e w' => e = .returned (.bool true) ∧ w = w' := by
  go_enter Try.func8, Try.ntmps8
  go_wp2
  go_ret
  exact ⟨rfl, rfl⟩
theorem bytes8_no (s : ByteArray) (w : World) (h : 1048576 < s.size) :
    Calls Try.prog 8 #[.string s] w fun e w' => e = .returned (.bool false) ∧ w = w' := by
  go_enter Try.func8, Try.ntmps8
  go_wp2
  go_ret
  exact ⟨rfl, rfl⟩
theorem least_no (s : ByteArray) (w : World) (h : 1048576 < s.size) :
    Calls Try.prog 3 #[.string s] w fun e w' => e = .returned (.bool true) ∧ Grown w w' := by
  go_enter Try.func3, Try.ntmps3
  go_wp2_with (go_at_call 8; refine (bytes8_no _ _ h).mono ?_; rintro e w' ⟨rfl, rfl⟩)
  go_ret
  exact ⟨rfl, Grown.refl _⟩

set_option maxHeartbeats 1000000 in
theorem least_walk (s : ByteArray) (w : World) (h : s.size ≤ 1048576) :
    Calls Try.prog 3 #[.string s] w fun e w' => e = .returned (.bool true) ∧ Grown w w' := by
  obtain ⟨K, hK⟩ : ∃ K, K = Pl.cut (Pl.gs s) s.size := ⟨_, rfl⟩
  have hKle : K ≤ s.size := by rw [hK]; exact Pl.cut_le _ _
  have HT : Hid (s.extract 0 (Pl.cut (Pl.gs s) s.size) = s.extract 0 K) := by show _ = _; rw [hK]
  have HG : Hid (Pl.good (Pl.gs s) s.size ((K : Int).toNat) = true) := by show _ = _; rw [Int.toNat_natCast, hK]; exact Pl.good_cut _ _
  have HB : Hid (∀ j : Nat, j < K → Pl.good (Pl.gs s) s.size ((j : Int).toNat) = false) := fun j hj => by
    rw [Int.toNat_natCast]
    exact Pl.good_below _ _ _ (by rw [← hK]; exact hj)
  clear hK
  have d1 : decide ((1048576 : Int) < (s.size : Int)) = false := by simp; omega
  have d2 : decide ((s.size : Int) < (K : Int)) = false := by simp; omega
  have d3 : decide (s.size < K) = false := by simp; omega
  go_enter Try.func3, Try.ntmps3
  go_wp2_with (first
    | (go_at_call 8; refine (bytes8_yes _ _ h).mono ?_; rintro e w' ⟨rfl, rfl⟩)
    | (go_at_call 9; refine (ZZtrim_to s _ (by omega) _ HT.out).mono ?_; rintro e w' ⟨rfl, rfl⟩))
  refine (good_any s _ _ (by omega) (by omega) (by omega) true HG.out).mono ?_
  rintro e w' ⟨rfl, rfl⟩
  clear HT HG
  go_wp2_with fail
  go_loop [5] (fun t => ∃ p : Nat, p ≤ K ∧ t = .int .i64 ((p : Int) - 1)) (fun t => (intOf t + 1).toNat)
  case atStart => exact ⟨K, Nat.le_refl _, rfl⟩
  case round =>
    obtain ⟨p, hp, rfl⟩ := hrel
    by_cases h0 : p = 0
    · subst h0
      go_wp2
      go_ret
      exact ⟨rfl, Grown.refl _⟩
    · obtain ⟨q, rfl⟩ : ∃ q, p = q + 1 := ⟨p - 1, by omega⟩
      have hlt : q < s.size := by omega
      clear h0
      by_cases c : Pl.gs s q = 32
      · have f : (((s[q]'hlt).toNat : Int) == 32) = true := by rw [← Pl.gs_at hlt]; simp [c]
        clear c
        go_wp2_with fail
        refine (good_any s _ _ (by omega) (by omega) (by omega) false (HB.out q (by omega))).mono ?_
        rintro e w' ⟨rfl, rfl⟩
        go_wp2_with fail
        go_round
        case rel => exact ⟨q, by omega, by go_num⟩
        case measure => simp [intOf]
      · have f : (((s[q]'hlt).toNat : Int) == 32) = false := by rw [← Pl.gs_at hlt]; simp [c]
        clear c
        go_wp2
        go_ret
        exact ⟨rfl, Grown.refl _⟩

end Go.Proofs.Qxb6619288a
