/-
  THE WALKS OF 'valueEnd' AND 'ZZvalueEnd'.
-/
import Derived.Test.Qxb6619197aReads
import Derived.Test.Qxb6619197aVal
namespace Go.Proofs.Qxb6619197a
open Go.RowKit

theorem ret_val {k : IntKind} {a b : Int} (h : a = b) : Ending.returned (.int k a) = .returned (.int k b) := by rw [h]

theorem stop_no7 {x : Int} (h1 : ¬ x = 32) (h2 : ¬ x = 9) (h3 : ¬ x = 10) (h4 : ¬ x = 13) (h5 : ¬ x = 44) (h6 : ¬ x = 125) (h7 : ¬ x = 93) : Pl.stop x = false := Pl.stop_no (by omega)

theorem stringEnd_to (g : Nat → Int) (b off n cap : Nat) (i : Int) (w : World) (hn : n ≤ 1099511627776) (h0 : 0 ≤ i) (hi : i ≤ n)
    (hc : ∀ j, j < n → w.cell? ⟨b, off + j, none⟩ = some (.int .u8 (g j))) (r : Int) (hr : ((Pl.SE g n (i.toNat + 1) : Nat) : Int) = r) :
    Calls Try.prog 25 #[.slice (some ⟨b, off, none⟩) n cap, .int .i64 i] w fun e w' => e = .returned (.int .i64 r) ∧ w = w' := by
  subst hr
  exact stringEnd_any g b off n cap i w hn h0 hi hc

/-- A string. -/
theorem valueEnd_string (g : Nat → Int) (b off n cap i : Nat) (w : World) (hn : n ≤ 1099511627776) (hi : i < n) (hs : g i = 34)
    (hc : ∀ j, j < n → w.cell? ⟨b, off + j, none⟩ = some (.int .u8 (g j))) (R : Int) (hR : ((Pl.SE g n (i + 1) : Nat) : Int) = R) :
    Calls Try.prog 26 #[.slice (some ⟨b, off, none⟩) n cap, .int .i64 (i : Int)] w fun e w' => e = .returned (.int .i64 R) ∧ w = w' := by
  have HC : Hid (∀ j, j < n → w.cell? ⟨b, off + j, none⟩ = some (.int .u8 (g j))) := hc
  have hcell := hc i hi
  have HR : Hid (((Pl.SE g n (i + 1) : Nat) : Int) = R) := hR
  have e1 : (g i == 34) = true := by simp [hs]
  clear hc hR hs
  go_enter Try.func26, Try.ntmps26
  go_wp2_with (go_at_call 25; refine (stringEnd_to g b off n cap i _ hn (by omega) (by omega) (by exact HC.out) R (by rw [Int.toNat_natCast]; exact HR.out)).mono ?_; rintro e w' ⟨rfl, rfl⟩)
  go_ret
  exact ⟨rfl, rfl⟩

set_option maxHeartbeats 2000000 in
/-- A bare value. -/
theorem valueEnd_bare (g : Nat → Int) (b off n cap i : Nat) (w : World) (hn : n ≤ 1099511627776) (hi : i < n) (h1 : g i ≠ 34) (h2 : ¬ (g i = 123 ∨ g i = 91))
    (hc : ∀ j, j < n → w.cell? ⟨b, off + j, none⟩ = some (.int .u8 (g j))) (R : Int) (hR : ((Pl.VB g n i : Nat) : Int) = R) :
    Calls Try.prog 26 #[.slice (some ⟨b, off, none⟩) n cap, .int .i64 (i : Int)] w fun e w' => e = .returned (.int .i64 R) ∧ w = w' := by
  have HC : Hid (∀ j, j < n → w.cell? ⟨b, off + j, none⟩ = some (.int .u8 (g j))) := hc
  have hcell := hc i hi
  have HR : Hid (((Pl.VB g n i : Nat) : Int) = R) := hR
  have e1 : (g i == 34) = false := by simp; omega
  have e2 : (g i == 123) = false := by simp; omega
  have e3 : (g i == 91) = false := by simp; omega
  clear hc hR h1 h2
  go_enter Try.func26, Try.ntmps26
  go_wp2
  clear hcell
  go_loop [1] (fun t => ∃ k : Nat, i ≤ k ∧ k ≤ n ∧ t = .int .i64 k ∧ Hid (((Pl.VB g n k : Nat) : Int) = R)) (fun t => n - (intOf t).toNat)
  case atStart => exact ⟨i, Nat.le_refl _, by omega, rfl, HR⟩
  case round =>
    obtain ⟨k, hk1, hk2, rfl, hs⟩ := hrel
    clear HR
    by_cases hlt : k < n
    · have hcell := HC.out k hlt
      obtain ⟨x, hx⟩ : ∃ x, x = g k := ⟨_, rfl⟩
      rw [← hx] at hcell
      have HX : Hid (x = g k) := hx
      clear hx
      by_cases c : x = 32
      · have c32 : (x == 32) = true := by simp [c]
        have S : Hid (Pl.stop (g k) = true) := by rw [← HX.out]; exact Pl.stop_yes (.inl c)
        clear c
        go_wp2
        go_ret
        have e := hs.out
        rw [Pl.VB_stop hlt S.out] at e
        exact ⟨ret_val e, rfl⟩
      have c32 : (x == 32) = false := by simp [c]
      have n32 : Hid (¬ x = 32) := c
      clear c
      by_cases c : x = 9
      · have c9 : (x == 9) = true := by simp [c]
        have S : Hid (Pl.stop (g k) = true) := by rw [← HX.out]; exact Pl.stop_yes (.inr (.inl c))
        clear c
        go_wp2
        go_ret
        have e := hs.out
        rw [Pl.VB_stop hlt S.out] at e
        exact ⟨ret_val e, rfl⟩
      have c9 : (x == 9) = false := by simp [c]
      have n9 : Hid (¬ x = 9) := c
      clear c
      by_cases c : x = 10
      · have c10 : (x == 10) = true := by simp [c]
        have S : Hid (Pl.stop (g k) = true) := by rw [← HX.out]; exact Pl.stop_yes (.inr (.inr (.inl c)))
        clear c
        go_wp2
        go_ret
        have e := hs.out
        rw [Pl.VB_stop hlt S.out] at e
        exact ⟨ret_val e, rfl⟩
      have c10 : (x == 10) = false := by simp [c]
      have n10 : Hid (¬ x = 10) := c
      clear c
      by_cases c : x = 13
      · have c13 : (x == 13) = true := by simp [c]
        have S : Hid (Pl.stop (g k) = true) := by rw [← HX.out]; exact Pl.stop_yes (.inr (.inr (.inr (.inl c))))
        clear c
        go_wp2
        go_ret
        have e := hs.out
        rw [Pl.VB_stop hlt S.out] at e
        exact ⟨ret_val e, rfl⟩
      have c13 : (x == 13) = false := by simp [c]
      have n13 : Hid (¬ x = 13) := c
      clear c
      by_cases c : x = 44
      · have c44 : (x == 44) = true := by simp [c]
        have S : Hid (Pl.stop (g k) = true) := by rw [← HX.out]; exact Pl.stop_yes (.inr (.inr (.inr (.inr (.inl c)))))
        clear c
        go_wp2
        go_ret
        have e := hs.out
        rw [Pl.VB_stop hlt S.out] at e
        exact ⟨ret_val e, rfl⟩
      have c44 : (x == 44) = false := by simp [c]
      have n44 : Hid (¬ x = 44) := c
      clear c
      by_cases c : x = 125
      · have c125 : (x == 125) = true := by simp [c]
        have S : Hid (Pl.stop (g k) = true) := by rw [← HX.out]; exact Pl.stop_yes (.inr (.inr (.inr (.inr (.inr (.inl c))))))
        clear c
        go_wp2
        go_ret
        have e := hs.out
        rw [Pl.VB_stop hlt S.out] at e
        exact ⟨ret_val e, rfl⟩
      have c125 : (x == 125) = false := by simp [c]
      have n125 : Hid (¬ x = 125) := c
      clear c
      by_cases c : x = 93
      · have c93 : (x == 93) = true := by simp [c]
        have S : Hid (Pl.stop (g k) = true) := by rw [← HX.out]; exact Pl.stop_yes (.inr (.inr (.inr (.inr (.inr (.inr (c)))))))
        clear c
        go_wp2
        go_ret
        have e := hs.out
        rw [Pl.VB_stop hlt S.out] at e
        exact ⟨ret_val e, rfl⟩
      have c93 : (x == 93) = false := by simp [c]
      have n93 : Hid (¬ x = 93) := c
      clear c
      have S : Hid (Pl.stop (g k) = false) := by
        rw [← HX.out]
        exact stop_no7 n32.out n9.out n10.out n13.out n44.out n125.out n93.out
      go_wp2
      go_round
      case rel => exact ⟨k + 1, by omega, by omega, by go_num, (by have e := hs.out; rw [Pl.VB_go hlt S.out] at e; exact e)⟩
      case measure => simp [intOf]; omega
    · go_wp2
      go_ret
      have e := hs.out
      rw [Pl.VB_out (by omega)] at e
      exact ⟨ret_val e, rfl⟩

set_option maxHeartbeats 2000000 in
/-- An object or an array. -/
theorem valueEnd_box (g : Nat → Int) (b off n cap i : Nat) (w : World) (hn : n ≤ 1099511627776) (hi : i < n) (h1 : g i = 123 ∨ g i = 91)
    (hc : ∀ j, j < n → w.cell? ⟨b, off + j, none⟩ = some (.int .u8 (g j))) (R : Int) (hR : ((Pl.VC g n 0 i : Nat) : Int) = R) :
    Calls Try.prog 26 #[.slice (some ⟨b, off, none⟩) n cap, .int .i64 (i : Int)] w fun e w' => e = .returned (.int .i64 R) ∧ w = w' := by
  have HC : Hid (∀ j, j < n → w.cell? ⟨b, off + j, none⟩ = some (.int .u8 (g j))) := hc
  have hcell := hc i hi
  have HR : Hid (((Pl.VC g n 0 i : Nat) : Int) = R) := hR
  have H1 : Hid (g i = 123 ∨ g i = 91) := h1
  have e1 : (g i == 34) = false := by simp; omega
  clear hc hR
  rcases (show (g i == 123) = true ∨ (g i == 123) = false ∧ (g i == 91) = true from by rcases h1 with h | h <;> simp [h]) with e2 | ⟨e2, e3⟩
  all_goals
    clear h1
    go_enter Try.func26, Try.ntmps26
    go_wp2
    clear hcell
    go_loop [1, 5] (fun t u => ∃ k d : Nat, i ≤ k ∧ k ≤ n + 1 ∧ d ≤ k ∧ t = .int .i64 k ∧ u = .int .i64 d ∧ Hid ((1 ≤ d ∨ (g k = 123 ∨ g k = 91)) ∧ ((Pl.VC g n d k : Nat) : Int) = R)) (fun t _ => n + 1 - (intOf t).toNat)
    case atStart => exact ⟨i, 0, Nat.le_refl _, by omega, by omega, rfl, rfl, .inr H1.out, HR.out⟩
    case round =>
      obtain ⟨k, d, hk1, hk2, hd, rfl, rfl, hs⟩ := hrel
      clear HR H1
      by_cases hlt : k < n
      · have hcell := HC.out k hlt
        obtain ⟨x, hx⟩ : ∃ x, x = g k := ⟨_, rfl⟩
        rw [← hx] at hcell
        have HX : Hid (x = g k) := hx
        clear hx
        by_cases c : x = 34
        · have c34 : (x == 34) = true := by simp [c]
          have HS : Hid (g k = 34) := by rw [← HX.out]; exact c
          clear c
          obtain ⟨e, he⟩ : ∃ e, e = Pl.SE g n (k + 1) := ⟨_, rfl⟩
          have hb := Pl.SE_bounds (g := g) (n := n) (k := k + 1) (by omega)
          rw [← he] at hb
          have HE : Hid (((Pl.SE g n ((k : Int).toNat + 1) : Nat) : Int) = (e : Int)) := by show _ = _; rw [Int.toNat_natCast, he]
          have HE' : Hid (e = Pl.SE g n (k + 1)) := he
          clear he
          obtain ⟨hb1, hb2⟩ := hb
          go_wp2_with (go_at_call 25; refine (stringEnd_to g b off n cap k _ hn (by omega) (by omega) (by exact HC.out) (e : Int) (by exact HE.out)).mono ?_; rintro e w' ⟨rfl, rfl⟩)
          go_round
          case rel => exact ⟨e, d, by omega, by omega, by omega, by go_num, rfl, (by
              have q := hs.out
              rw [Pl.VC_quote hlt HS.out, ← HE'.out] at q
              exact ⟨.inl (q.1.resolve_right (by have := HS.out; omega)), q.2⟩)⟩
          case measure => simp [intOf]; omega
        have c34 : (x == 34) = false := by simp [c]
        have n34 : Hid (¬ x = 34) := c
        clear c
        by_cases c : x = 123 ∨ x = 91
        · have HS : Hid (g k = 123 ∨ g k = 91) := by rw [← HX.out]; exact c
          have HN : Hid (((Pl.VC g n (d + 1) (k + 1) : Nat) : Int) = R) := by
            have q := hs.out
            rw [Pl.VC_open hlt HS.out] at q
            exact q.2
          rcases (show (x == 123) = true ∨ (x == 123) = false ∧ (x == 91) = true from by rcases c with h | h <;> simp [h]) with f2 | ⟨f2, f3⟩
          all_goals
            clear c
            go_wp2
            go_round
            case rel => exact ⟨k + 1, d + 1, by omega, by omega, by omega, by go_num, by go_num, .inl (by omega), HN.out⟩
            case measure => simp [intOf]; omega
        have f2 : (x == 123) = false := by simp; omega
        have f3 : (x == 91) = false := by simp; omega
        have nop : Hid (¬ (g k = 123 ∨ g k = 91)) := by rw [← HX.out]; exact c
        clear c
        have hd1 : 1 ≤ d := by
          rcases hs.out.1 with a | a
          · exact a
          · exact absurd a nop.out
        by_cases c : x = 125 ∨ x = 93
        · have HS : Hid (g k = 125 ∨ g k = 93) := by rw [← HX.out]; exact c
          by_cases hd2 : d = 1
          · subst hd2
            have HN : Hid (((k + 1 : Nat) : Int) = R) := by
              have q := hs.out
              rw [Pl.VC_last hlt HS.out] at q
              exact q.2
            rcases (show (x == 125) = true ∨ (x == 125) = false ∧ (x == 93) = true from by rcases c with h | h <;> simp [h]) with g2 | ⟨g2, g3⟩
            all_goals
              clear c hs
              go_wp2
              go_ret
              exact ⟨ret_val HN.out, rfl⟩
          · have HN : Hid (((Pl.VC g n (d - 1) (k + 1) : Nat) : Int) = R) := by
              have q := hs.out
              rw [Pl.VC_close hlt HS.out hd2] at q
              exact q.2
            have hd3 : 2 ≤ d := by omega
            rcases (show (x == 125) = true ∨ (x == 125) = false ∧ (x == 93) = true from by rcases c with h | h <;> simp [h]) with g2 | ⟨g2, g3⟩
            all_goals
              clear c hs hd2
              go_wp2
              go_round
              case rel => exact ⟨k + 1, d - 1, by omega, by omega, by omega, by go_num, by go_num, .inl (by omega), HN.out⟩
              case measure => simp [intOf]; omega
        have g2 : (x == 125) = false := by simp; omega
        have g3 : (x == 93) = false := by simp; omega
        have HN : Hid (((Pl.VC g n d (k + 1) : Nat) : Int) = R) := by
          have q := hs.out
          have n1 := n34.out
          rw [HX.out] at n1 c
          rw [Pl.VC_other hlt n1 nop.out c] at q
          exact q.2
        clear c hs
        go_wp2
        go_round
        case rel => exact ⟨k + 1, d, by omega, by omega, by omega, by go_num, rfl, .inl hd1, HN.out⟩
        case measure => simp [intOf]; omega
      · have HN : Hid (((k : Nat) : Int) = R) := by
          have q := hs.out
          rw [Pl.VC_out (by omega)] at q
          exact q.2
        clear hs
        go_wp2
        go_ret
        exact ⟨ret_val HN.out, rfl⟩

theorem valueEnd_any (g : Nat → Int) (b off n cap i : Nat) (w : World) (hn : n ≤ 1099511627776) (hi : i < n)
    (hc : ∀ j, j < n → w.cell? ⟨b, off + j, none⟩ = some (.int .u8 (g j))) (R : Int) (hR : ((Pl.VE g n i : Nat) : Int) = R) :
    Calls Try.prog 26 #[.slice (some ⟨b, off, none⟩) n cap, .int .i64 (i : Int)] w fun e w' => e = .returned (.int .i64 R) ∧ w = w' := by
  by_cases h1 : g i = 34
  · rw [Pl.VE_string h1] at hR
    exact valueEnd_string g b off n cap i w hn hi h1 hc R hR
  · by_cases h2 : g i = 123 ∨ g i = 91
    · rw [Pl.VE_box h2] at hR
      exact valueEnd_box g b off n cap i w hn hi h2 hc R hR
    · rw [Pl.VE_bare h1 h2] at hR
      exact valueEnd_bare g b off n cap i w hn hi h1 h2 hc R hR

theorem ZZvalueEnd_to (g : Nat → Int) (b off n cap : Nat) (i : Int) (w : World) (hn : n ≤ 1099511627776) (h0 : 0 ≤ i) (hi : i < n)
    (hc : ∀ j, j < n → w.cell? ⟨b, off + j, none⟩ = some (.int .u8 (g j))) (R : Int) (hR : ((Pl.VE g n i.toNat : Nat) : Int) = R) :
    Calls Try.prog 19 #[.slice (some ⟨b, off, none⟩) n cap, .int .i64 i] w fun e w' => e = .returned (.int .i64 R) ∧ w = w' := by
  obtain ⟨i, rfl⟩ := Int.eq_ofNat_of_zero_le h0
  rw [Int.toNat_natCast] at hR
  have HC : Hid (∀ j, j < n → w.cell? ⟨b, off + j, none⟩ = some (.int .u8 (g j))) := hc
  have HR : Hid (((Pl.VE g n i : Nat) : Int) = R) := hR
  clear hc hR
  go_enter Try.func19, Try.ntmps19
  go_wp2_with (go_at_call 26; refine (valueEnd_any g b off n cap i _ hn (by omega) (by exact HC.out) R (by exact HR.out)).mono ?_; rintro e w' ⟨rfl, rfl⟩)
  go_ret
  exact ⟨rfl, rfl⟩

end Go.Proofs.Qxb6619197a
