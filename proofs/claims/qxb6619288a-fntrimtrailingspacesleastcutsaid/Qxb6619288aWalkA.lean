/-
  THE WALKS OF 'trimTrailingSpaces', 'oddBackslashesBefore', 'goodCut'.
-/
import Derived.Test.Qxb6619288aRows
import Derived.Test.Qxb6619288aPlain
import Derived.WalkKit
import Derived.WalkSpells
import Derived.WalkLawsBesides
namespace Go.Proofs.Qxb6619288a
open Go.RowKit

set_option maxHeartbeats 1000000 in
theorem odd_any (s : ByteArray) (k : Int) (w : World) (hs : s.size ≤ 1099511627776) (h0 : 0 ≤ k) (hk : k ≤ s.size) :
    Calls Try.prog 12 #[.string s, .int .i64 k] w fun e w' => e = .returned (.bool (Pl.odd (Pl.gs s) k.toNat)) ∧ w = w' := by
  obtain ⟨k, rfl⟩ := Int.eq_ofNat_of_zero_le h0
  rw [Int.toNat_natCast]
  obtain ⟨R, hR⟩ : ∃ R, R = Pl.odd (Pl.gs s) k := ⟨_, rfl⟩
  rw [← hR]
  have HR : Hid (R = Pl.odd (Pl.gs s) k) := hR
  clear hR h0
  have hk' : k ≤ s.size := by omega
  clear hk
  go_enter Try.func12, Try.ntmps12
  go_wp2
  go_loop [5, 6] (fun t u => ∃ (p : Nat) (b : Bool), p ≤ k ∧ t = .bool b ∧ u = .int .i64 ((p : Int) - 1) ∧ Hid (R = (b ^^ Pl.odd (Pl.gs s) p))) (fun _ u => (intOf u + 1).toNat)
  case atStart => exact ⟨k, false, Nat.le_refl _, rfl, rfl, by rw [HR.out]; show _ = _; simp⟩
  case round =>
    obtain ⟨p, b, hp, rfl, rfl, hs'⟩ := hrel
    by_cases h0 : p = 0
    · subst h0
      go_wp2
      go_ret
      refine ⟨?_, rfl⟩
      have e := hs'.out
      rw [Pl.odd_zero] at e
      simp at e
      rw [e]
      rfl
    · obtain ⟨q, rfl⟩ : ∃ q, p = q + 1 := ⟨p - 1, by omega⟩
      have hlt : q < s.size := by omega
      clear h0
      by_cases c : Pl.gs s q = 92
      · have f : (((s[q]'hlt).toNat : Int) == 92) = true := by rw [← Pl.gs_at hlt]; simp [c]
        have HN : Hid (R = ((!b) ^^ Pl.odd (Pl.gs s) q)) := by
          have e := hs'.out
          rw [Pl.odd_yes c] at e
          rw [e]
          show _ = _
          cases b <;> simp
        clear c hs'
        go_wp2
        go_round
        case rel => exact ⟨q, !b, by omega, rfl, by go_num, HN⟩
        case measure => simp [intOf]
      · have f : (((s[q]'hlt).toNat : Int) == 92) = false := by rw [← Pl.gs_at hlt]; simp [c]
        have HN : Hid (R = b) := by
          have e := hs'.out
          rw [Pl.odd_no c] at e
          rw [e]
          show _ = _
          simp
        clear c hs'
        go_wp2
        go_ret
        exact ⟨by rw [HN.out]; rfl, rfl⟩

theorem ret_str {a b : ByteArray} (h : a = b) : Ending.returned (.string a) = .returned (.string b) := by rw [h]

set_option maxHeartbeats 1000000 in
theorem trim_any (s : ByteArray) (w : World) (hs : s.size ≤ 1099511627776) (R : ByteArray) (hR : s.extract 0 (Pl.cut (Pl.gs s) s.size) = R) :
    Calls Try.prog 23 #[.string s] w fun e w' => e = .returned (.string R) ∧ w = w' := by
  have HR : Hid (s.extract 0 (Pl.cut (Pl.gs s) s.size) = R) := hR
  clear hR
  go_enter Try.func23, Try.ntmps23
  go_wp2
  go_loop [3] (fun t => ∃ p : Nat, p ≤ s.size ∧ t = .int .i64 p ∧ Hid (Pl.te (Pl.gs s) s.size = Pl.te (Pl.gs s) p)) (fun t => (intOf t).toNat)
  case atStart => exact ⟨s.size, Nat.le_refl _, rfl, rfl⟩
  case round =>
    obtain ⟨p, hp, rfl, hte⟩ := hrel
    by_cases h0 : p = 0
    · subst h0
      have HN : Hid (s.extract 0 0 = R) := by
        have e := HR.out
        have h1 : Pl.te (Pl.gs s) s.size = 0 := hte.out
        rw [Pl.cut_no (by rw [h1]; exact fun x => Bool.noConfusion x.1), h1] at e
        exact e
      clear HR hte
      go_wp2
      refine wp_loop_rounds 1 ?_
      rw [rounds_succ]
      go_wp2
      go_ret
      exact ⟨ret_str (by rw [← HN.out]; simp), rfl⟩
    · obtain ⟨q, rfl⟩ : ∃ q, p = q + 1 := ⟨p - 1, by omega⟩
      have hlt : q < s.size := by omega
      clear h0
      by_cases c : Pl.gs s q = 32
      · have f : (((s[q]'hlt).toNat : Int) == 32) = true := by rw [← Pl.gs_at hlt]; simp [c]
        have HN : Hid (Pl.te (Pl.gs s) s.size = Pl.te (Pl.gs s) q) := by
          have e := hte.out
          rw [Pl.te_yes c] at e
          exact e
        clear c hte
        go_wp2
        go_round
        case rel => exact ⟨q, by omega, by go_num, HN⟩
        case measure => simp [intOf]
      · have f : (((s[q]'hlt).toNat : Int) == 32) = false := by rw [← Pl.gs_at hlt]; simp [c]
        have hE : Hid (Pl.te (Pl.gs s) s.size = q + 1) := by
          show _ = _
          rw [hte.out, Pl.te_no c]
        clear c hte
        go_wp2
        clear f
        go_loop [4, 5] (fun t u => ∃ p m : Nat, p ≤ q + 1 ∧ m ≤ q + 1 ∧ t = .int .i64 m ∧ u = .int .i64 ((p : Int) - 1) ∧ Hid (m + Pl.bsr (Pl.gs s) p = Pl.bsr (Pl.gs s) (q + 1))) (fun _ u => (intOf u + 1).toNat)
        case atStart => exact ⟨q + 1, 0, Nat.le_refl _, by omega, rfl, by go_num, Nat.zero_add _⟩
        case round =>
          obtain ⟨p, m, hp1, hm1, rfl, rfl, hb⟩ := hrel
          by_cases h0 : p = 0
          · subst h0
            have hm' : Hid (m = Pl.bsr (Pl.gs s) (q + 1)) := hb.out
            clear hb
            by_cases hpar : (m : Int) % 2 = 1
            · have e3 : ((m : Int) % 2 == 1) = true := by simp; omega
              have HO : Hid (Pl.odd (Pl.gs s) (q + 1) = true) := by
                show (Pl.bsr (Pl.gs s) (q + 1) % 2 == 1) = true
                rw [← hm'.out]
                simp
                omega
              clear hpar
              by_cases hlast : q + 1 < s.size
              · have HN : Hid (s.extract 0 (q + 1 + 1) = R) := by
                  have e := HR.out
                  rw [Pl.cut_yes (by rw [hE.out]; exact HO.out) (by rw [hE.out]; exact hlast), hE.out] at e
                  exact e
                clear HR hE hm' HO
                go_wp2
                go_ret
                exact ⟨ret_str HN.out, rfl⟩
              · have HN : Hid (s.extract 0 (q + 1) = R) := by
                  have e := HR.out
                  rw [Pl.cut_no (by rw [hE.out]; exact fun x => hlast x.2), hE.out] at e
                  exact e
                clear HR hE hm' HO
                go_wp2
                go_ret
                exact ⟨ret_str HN.out, rfl⟩
            · have e3 : ((m : Int) % 2 == 1) = false := by simp; omega
              have HN : Hid (s.extract 0 (q + 1) = R) := by
                have e := HR.out
                have ho : Pl.odd (Pl.gs s) (q + 1) = false := by
                  show (Pl.bsr (Pl.gs s) (q + 1) % 2 == 1) = false
                  rw [← hm'.out]
                  simp
                  omega
                rw [Pl.cut_no (by rw [hE.out, ho]; exact fun x => Bool.noConfusion x.1), hE.out] at e
                exact e
              clear HR hE hm' hpar
              go_wp2
              go_ret
              exact ⟨ret_str HN.out, rfl⟩
          · obtain ⟨r, rfl⟩ : ∃ r, p = r + 1 := ⟨p - 1, by omega⟩
            have hrt : r < s.size := by omega
            clear h0
            by_cases c : Pl.gs s r = 92
            · have f : (((s[r]'hrt).toNat : Int) == 92) = true := by rw [← Pl.gs_at hrt]; simp [c]
              have HN : Hid (m + 1 + Pl.bsr (Pl.gs s) r = Pl.bsr (Pl.gs s) (q + 1) ∧ m + 1 ≤ q + 1) := by
                have e := hb.out
                have e2 := Pl.bsr_le (Pl.gs s) (q + 1)
                rw [Pl.bsr_yes c] at e
                show _ ∧ _
                omega
              clear c hb HR hE
              go_wp2
              go_round
              case rel => exact ⟨r, m + 1, by omega, HN.out.2, by go_num, by go_num, HN.out.1⟩
              case measure => simp [intOf]
            · have f : (((s[r]'hrt).toNat : Int) == 92) = false := by rw [← Pl.gs_at hrt]; simp [c]
              have hm' : Hid (m = Pl.bsr (Pl.gs s) (q + 1)) := by
                have e := hb.out
                rw [Pl.bsr_no c] at e
                exact e
              clear c hb
              by_cases hpar : (m : Int) % 2 = 1
              · have e3 : ((m : Int) % 2 == 1) = true := by simp; omega
                have HO : Hid (Pl.odd (Pl.gs s) (q + 1) = true) := by
                  show (Pl.bsr (Pl.gs s) (q + 1) % 2 == 1) = true
                  rw [← hm'.out]
                  simp
                  omega
                clear hpar
                by_cases hlast : q + 1 < s.size
                · have HN : Hid (s.extract 0 (q + 1 + 1) = R) := by
                    have e := HR.out
                    rw [Pl.cut_yes (by rw [hE.out]; exact HO.out) (by rw [hE.out]; exact hlast), hE.out] at e
                    exact e
                  clear HR hE hm' HO
                  go_wp2
                  go_ret
                  exact ⟨ret_str HN.out, rfl⟩
                · have HN : Hid (s.extract 0 (q + 1) = R) := by
                    have e := HR.out
                    rw [Pl.cut_no (by rw [hE.out]; exact fun x => hlast x.2), hE.out] at e
                    exact e
                  clear HR hE hm' HO
                  go_wp2
                  go_ret
                  exact ⟨ret_str HN.out, rfl⟩
              · have e3 : ((m : Int) % 2 == 1) = false := by simp; omega
                have HN : Hid (s.extract 0 (q + 1) = R) := by
                  have e := HR.out
                  have ho : Pl.odd (Pl.gs s) (q + 1) = false := by
                    show (Pl.bsr (Pl.gs s) (q + 1) % 2 == 1) = false
                    rw [← hm'.out]
                    simp
                    omega
                  rw [Pl.cut_no (by rw [hE.out, ho]; exact fun x => Bool.noConfusion x.1), hE.out] at e
                  exact e
                clear HR hE hm' hpar
                go_wp2
                go_ret
                exact ⟨ret_str HN.out, rfl⟩

theorem ZZtrim_to (s : ByteArray) (w : World) (hs : s.size ≤ 1099511627776) (R : ByteArray) (hR : s.extract 0 (Pl.cut (Pl.gs s) s.size) = R) :
    Calls Try.prog 9 #[.string s] w fun e w' => e = .returned (.string R) ∧ w = w' := by
  have HR : Hid (s.extract 0 (Pl.cut (Pl.gs s) s.size) = R) := hR
  clear hR
  go_enter Try.func9, Try.ntmps9
  go_wp2_with (go_at_call 23; refine (trim_any s _ hs R (by exact HR.out)).mono ?_; rintro e w' ⟨rfl, rfl⟩)
  go_ret
  exact ⟨rfl, rfl⟩

end Go.Proofs.Qxb6619288a
