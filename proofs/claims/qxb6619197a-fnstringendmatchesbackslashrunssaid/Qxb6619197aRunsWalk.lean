/-
  THE WALK OF 'zzStringEndModel'.
-/
import Derived.Test.Qxb6619197aSkip1
import Derived.Test.Qxb6619197aRuns
namespace Go.Proofs.Qxb6619197a
open Go.RowKit

theorem ret_int {k : IntKind} {a b : Int} (h : a = b) : Ending.returned (.int k a) = .returned (.int k b) := by rw [h]
theorem no_more {g : Nat → Int} {i q : Nat} (h : ∀ j, i < j → j < q → ¬ Pl.closes g i j) (hq : ¬ Pl.closes g i q) : ∀ j, i < j → j < q + 1 → ¬ Pl.closes g i j := fun j a b => by
  by_cases e : j = q
  · rw [e]; exact hq
  · exact h j a (by omega)

set_option maxHeartbeats 2000000 in
theorem stringEndModel_any (g : Nat → Int) (b off n cap : Nat) (i : Int) (w : World) (hn : n ≤ 1099511627776) (h0 : 0 ≤ i) (hi : i < n)
    (hc : ∀ j, j < n → w.cell? ⟨b, off + j, none⟩ = some (.int .u8 (g j))) (R : Int) (hR : ((Pl.SE g n (i.toNat + 1) : Nat) : Int) = R) :
    Calls Try.prog 15 #[.slice (some ⟨b, off, none⟩) n cap, .int .i64 i] w fun e w' => e = .returned (.int .i64 R) ∧ w = w' := by
  obtain ⟨i, rfl⟩ := Int.eq_ofNat_of_zero_le h0
  rw [Int.toNat_natCast] at hR
  have HR : Hid (((Pl.SE g n (i + 1) : Nat) : Int) = R) := hR
  have HC : Hid (∀ j, j < n → w.cell? ⟨b, off + j, none⟩ = some (.int .u8 (g j))) := hc
  clear hR hc h0
  have hi' : i < n := by omega
  clear hi
  go_enter Try.func15, Try.ntmps15
  go_wp2
  go_loop [6] (fun t => ∃ q : Nat, i < q ∧ q ≤ n ∧ t = .int .i64 q ∧ Hid (∀ j, i < j → j < q → ¬ Pl.closes g i j)) (fun t => n - (intOf t).toNat)
  case atStart => exact ⟨i + 1, by omega, by omega, by go_num, fun j a b => by omega⟩
  case round =>
    obtain ⟨q, hq1, hq2, rfl, hno⟩ := hrel
    by_cases hlt : q < n
    · have hcell := HC.out q hlt
      by_cases h1 : g q = 34
      · have e1 : (g q == 34) = true := by simp [h1]
        have H1 : Hid (g q = 34) := h1
        clear h1
        go_wp2
        go_loop [7, 8] (fun r t => ∃ p m : Nat, i ≤ p ∧ p < q ∧ t = .int .i64 p ∧ r = .int .i64 m ∧ m ≤ q ∧ Hid (m + Pl.bs g i (p + 1) = Pl.bs g i q)) (fun _ t => (intOf t).toNat)
        case atStart => exact ⟨q - 1, 0, by omega, by omega, by go_num, rfl, by omega, (show 0 + Pl.bs g i (q - 1 + 1) = Pl.bs g i q by rw [Nat.zero_add, show q - 1 + 1 = q by omega])⟩
        case round =>
          obtain ⟨p, m, hp1, hp2, rfl, rfl, hm, hb⟩ := hrel
          by_cases hp : i < p
          · have hcp := HC.out p (by omega)
            by_cases h2 : g p = 92
            · have e2 : (g p == 92) = true := by simp [h2]
              have e3 : Hid (m + 1 + Pl.bs g i (p - 1 + 1) = Pl.bs g i q ∧ m + 1 ≤ q) := by
                have h3 := Pl.bs_yes hp h2
                have h4 := hb.out
                have h5 := Pl.bs_le g i q
                show _ ∧ _
                rw [show p - 1 + 1 = p by omega]
                omega
              clear h2 hno HR
              go_wp2
              go_round
              case rel => exact ⟨p - 1, m + 1, by omega, by omega, by go_num, by go_num, e3.out.2, e3.out.1⟩
              case measure => simp [intOf]; omega
            · have e2 : (g p == 92) = false := by simp [h2]
              have hm' : Hid (m = Pl.bs g i q) := by
                have h3 := Pl.bs_no (i := i) h2
                have h4 := hb.out
                show _ = _
                omega
              clear h2 hb
              by_cases hpar : (m : Int) % 2 = 0
              · have e3 : ((m : Int) % 2 == 0) = true := by simp; omega
                have hpar' : Hid (m % 2 = 0) := (show m % 2 = 0 by omega)
                clear hpar
                go_wp2
                go_ret
                refine ⟨?_, rfl⟩
                have e := HR.out
                rw [Pl.SE_model_found hq1 hlt H1.out (by rw [← hm'.out]; exact hpar'.out) hno.out] at e
                exact ret_int (by omega)
              · have e3 : ((m : Int) % 2 == 0) = false := by simp; omega
                have hpar' : Hid (¬ m % 2 = 0) := (show ¬ m % 2 = 0 by omega)
                clear hpar
                go_wp2
                go_round
                case rel => exact ⟨q + 1, by omega, by omega, by go_num, no_more hno.out (fun x => hpar'.out (by rw [hm'.out]; exact x.2))⟩
                case measure => simp [intOf]; omega
          · have hm' : Hid (m = Pl.bs g i q) := by
              have h4 := hb.out
              rw [show p = i by omega, Pl.bs_at] at h4
              exact h4
            clear hb
            by_cases hpar : (m : Int) % 2 = 0
            · have e3 : ((m : Int) % 2 == 0) = true := by simp; omega
              have hpar' : Hid (m % 2 = 0) := (show m % 2 = 0 by omega)
              clear hpar
              go_wp2
              go_ret
              refine ⟨?_, rfl⟩
              have e := HR.out
              rw [Pl.SE_model_found hq1 hlt H1.out (by rw [← hm'.out]; exact hpar'.out) hno.out] at e
              exact ret_int (by omega)
            · have e3 : ((m : Int) % 2 == 0) = false := by simp; omega
              have hpar' : Hid (¬ m % 2 = 0) := (show ¬ m % 2 = 0 by omega)
              clear hpar
              go_wp2
              go_round
              case rel => exact ⟨q + 1, by omega, by omega, by go_num, no_more hno.out (fun x => hpar'.out (by rw [hm'.out]; exact x.2))⟩
              case measure => simp [intOf]; omega
      · have e1 : (g q == 34) = false := by simp [h1]
        have H1 : Hid (¬ g q = 34) := h1
        clear h1
        go_wp2
        go_round
        case rel => exact ⟨q + 1, by omega, by omega, by go_num, no_more hno.out (fun x => H1.out x.1)⟩
        case measure => simp [intOf]; omega
    · obtain rfl : q = n := by omega
      have HE : Hid (((q + Pl.bs g i q % 2 : Nat) : Int) = R) := by
        have e := HR.out
        rw [Pl.SE_model_none hi' hno.out] at e
        exact e
      clear HR hno
      go_wp2
      go_loop [9, 10] (fun r t => ∃ p m : Nat, i ≤ p ∧ p < q ∧ t = .int .i64 p ∧ r = .int .i64 m ∧ m ≤ q ∧ Hid (m + Pl.bs g i (p + 1) = Pl.bs g i q)) (fun _ t => (intOf t).toNat)
      case atStart => exact ⟨q - 1, 0, by omega, by omega, by go_num, rfl, by omega, (show 0 + Pl.bs g i (q - 1 + 1) = Pl.bs g i q by rw [Nat.zero_add, show q - 1 + 1 = q by omega])⟩
      case round =>
        obtain ⟨p, m, hp1, hp2, rfl, rfl, hm, hb⟩ := hrel
        by_cases hp : i < p
        · have hcp := HC.out p (by omega)
          by_cases h2 : g p = 92
          · have e2 : (g p == 92) = true := by simp [h2]
            have e3 : Hid (m + 1 + Pl.bs g i (p - 1 + 1) = Pl.bs g i q ∧ m + 1 ≤ q) := by
              have h3 := Pl.bs_yes hp h2
              have h4 := hb.out
              have h5 := Pl.bs_le g i q
              show _ ∧ _
              rw [show p - 1 + 1 = p by omega]
              omega
            clear h2
            go_wp2
            go_round
            case rel => exact ⟨p - 1, m + 1, by omega, by omega, by go_num, by go_num, e3.out.2, e3.out.1⟩
            case measure => simp [intOf]; omega
          · have e2 : (g p == 92) = false := by simp [h2]
            have hm' : Hid (m = Pl.bs g i q) := by
              have h3 := Pl.bs_no (i := i) h2
              have h4 := hb.out
              show _ = _
              omega
            clear h2 hb
            by_cases hpar : (m : Int) % 2 = 1
            · have e3 : ((m : Int) % 2 == 1) = true := by simp; omega
              have hpar' : Hid (m % 2 = 1) := (show m % 2 = 1 by omega)
              clear hpar
              go_wp2
              go_ret
              refine ⟨?_, rfl⟩
              have e := HE.out
              rw [← hm'.out, hpar'.out] at e
              exact ret_int (by omega)
            · have e3 : ((m : Int) % 2 == 1) = false := by simp; omega
              have hpar' : Hid (m % 2 = 0) := (show m % 2 = 0 by omega)
              clear hpar
              go_wp2
              go_ret
              refine ⟨?_, rfl⟩
              have e := HE.out
              rw [← hm'.out, hpar'.out] at e
              exact ret_int (by omega)
        · have hm' : Hid (m = Pl.bs g i q) := by
            have h4 := hb.out
            rw [show p = i by omega, Pl.bs_at] at h4
            exact h4
          clear hb
          by_cases hpar : (m : Int) % 2 = 1
          · have e3 : ((m : Int) % 2 == 1) = true := by simp; omega
            have hpar' : Hid (m % 2 = 1) := (show m % 2 = 1 by omega)
            clear hpar
            go_wp2
            go_ret
            refine ⟨?_, rfl⟩
            have e := HE.out
            rw [← hm'.out, hpar'.out] at e
            exact ret_int (by omega)
          · have e3 : ((m : Int) % 2 == 1) = false := by simp; omega
            have hpar' : Hid (m % 2 = 0) := (show m % 2 = 0 by omega)
            clear hpar
            go_wp2
            go_ret
            refine ⟨?_, rfl⟩
            have e := HE.out
            rw [← hm'.out, hpar'.out] at e
            exact ret_int (by omega)

end Go.Proofs.Qxb6619197a
