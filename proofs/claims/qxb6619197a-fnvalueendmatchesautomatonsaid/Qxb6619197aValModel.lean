/-
  THE WALK OF 'zzValueEndModel'.
-/
import Derived.Test.Qxb6619197aValWalk
namespace Go.Proofs.Qxb6619197a
open Go.RowKit

/-- What follows a string that ended at e, at depth d. -/
def Pl.after (g : Nat → Int) (n d e : Nat) : Nat := if d = 0 then e else Pl.VC g n d e
theorem Pl.after_zero (g : Nat → Int) (n e : Nat) : Pl.after g n 0 e = e := by unfold Pl.after; rw [if_pos rfl]
theorem Pl.after_pos (g : Nat → Int) (n e : Nat) {d : Nat} (h : 1 ≤ d) : Pl.after g n d e = Pl.VC g n d e := by unfold Pl.after; rw [if_neg (by omega)]
theorem Pl.after_out (g : Nat → Int) (n d e : Nat) (h : n ≤ e) : Pl.after g n d e = e := by
  unfold Pl.after
  split
  · rfl
  · exact Pl.VC_out h

set_option maxHeartbeats 2000000 in
theorem model_bare (g : Nat → Int) (b off n cap i : Nat) (w : World) (hn : n ≤ 1099511627776) (hi : i < n) (h1 : g i ≠ 34) (h2 : ¬ (g i = 123 ∨ g i = 91))
    (hc : ∀ j, j < n → w.cell? ⟨b, off + j, none⟩ = some (.int .u8 (g j))) (R : Int) (hR : ((Pl.VB g n i : Nat) : Int) = R) :
    Calls Try.prog 20 #[.slice (some ⟨b, off, none⟩) n cap, .int .i64 (i : Int)] w fun e w' => e = .returned (.int .i64 R) ∧ w = w' := by
  have HC : Hid (∀ j, j < n → w.cell? ⟨b, off + j, none⟩ = some (.int .u8 (g j))) := hc
  have hcell := hc i hi
  have HR : Hid (((Pl.VB g n i : Nat) : Int) = R) := hR
  have e1 : (g i != 34) = true := by rw [bne_iff_ne]; omega
  have e2 : (g i != 123) = true := by rw [bne_iff_ne]; omega
  have e3 : (g i != 91) = true := by rw [bne_iff_ne]; omega
  clear hc hR h1 h2
  go_enter Try.func20, Try.ntmps20
  go_wp2
  clear hcell
  go_loop [7] (fun t => ∃ k : Nat, i ≤ k ∧ k ≤ n ∧ t = .int .i64 k ∧ Hid (((Pl.VB g n k : Nat) : Int) = R)) (fun t => n - (intOf t).toNat)
  case atStart => exact ⟨i, Nat.le_refl _, by omega, rfl, HR⟩
  case round =>
    obtain ⟨k, hk1, hk2, rfl, hs⟩ := hrel
    clear HR
    by_cases hlt : k < n
    · have hcell := HC.out k hlt
      obtain ⟨x, hx⟩ : ∃ x, x = g k := ⟨_, rfl⟩
      rw [← hx] at hcell
      have HX : Hid (x = g k) := hx
      clear hx
      by_cases hb : Pl.blank x = true
      · have S : Hid (Pl.stop (g k) = true) := by
          rw [← HX.out]
          have := Pl.blank_cases hb
          exact Pl.stop_yes (by omega)
        go_wp2_with (go_at_call 11; refine (zzIsBlank_any _ _).mono ?_; rintro e w' ⟨rfl, rfl⟩)
        go_ret
        have e := hs.out
        rw [Pl.VB_stop hlt S.out] at e
        exact ⟨ret_val e, rfl⟩
      have hb0 : Pl.blank x = false := by simpa using hb
      have nb : Hid (¬ (x = 32 ∨ x = 9 ∨ x = 10 ∨ x = 13)) := fun h => hb (Pl.blank_yes h)
      clear hb
      by_cases c : x = 44
      · have c44 : (x == 44) = true := by simp [c]
        have S : Hid (Pl.stop (g k) = true) := by rw [← HX.out]; exact Pl.stop_yes (by omega)
        clear c
        go_wp2_with (go_at_call 11; refine (zzIsBlank_any _ _).mono ?_; rintro e w' ⟨rfl, rfl⟩)
        go_ret
        have e := hs.out
        rw [Pl.VB_stop hlt S.out] at e
        exact ⟨ret_val e, rfl⟩
      have c44 : (x == 44) = false := by simp [c]
      have n44 : Hid (¬ x = 44) := c
      clear c
      by_cases c : x = 125
      · have c125 : (x == 125) = true := by simp [c]
        have S : Hid (Pl.stop (g k) = true) := by rw [← HX.out]; exact Pl.stop_yes (by omega)
        clear c
        go_wp2_with (go_at_call 11; refine (zzIsBlank_any _ _).mono ?_; rintro e w' ⟨rfl, rfl⟩)
        go_ret
        have e := hs.out
        rw [Pl.VB_stop hlt S.out] at e
        exact ⟨ret_val e, rfl⟩
      have c125 : (x == 125) = false := by simp [c]
      have n125 : Hid (¬ x = 125) := c
      clear c
      by_cases c : x = 93
      · have c93 : (x == 93) = true := by simp [c]
        have S : Hid (Pl.stop (g k) = true) := by rw [← HX.out]; exact Pl.stop_yes (by omega)
        clear c
        go_wp2_with (go_at_call 11; refine (zzIsBlank_any _ _).mono ?_; rintro e w' ⟨rfl, rfl⟩)
        go_ret
        have e := hs.out
        rw [Pl.VB_stop hlt S.out] at e
        exact ⟨ret_val e, rfl⟩
      have c93 : (x == 93) = false := by simp [c]
      have n93 : Hid (¬ x = 93) := c
      clear c
      have S : Hid (Pl.stop (g k) = false) := by
        rw [← HX.out]
        have := nb.out
        exact stop_no7 (by omega) (by omega) (by omega) (by omega) n44.out n125.out n93.out
      go_wp2_with (go_at_call 11; refine (zzIsBlank_any _ _).mono ?_; rintro e w' ⟨rfl, rfl⟩)
      go_round
      case rel => exact ⟨k + 1, by omega, by omega, by go_num, (by have e := hs.out; rw [Pl.VB_go hlt S.out] at e; exact e)⟩
      case measure => simp [intOf]; omega
    · go_wp2
      go_ret
      have e := hs.out
      rw [Pl.VB_out (by omega)] at e
      exact ⟨ret_val (by omega), rfl⟩

set_option maxHeartbeats 4000000 in
theorem model_auto (g : Nat → Int) (b off n cap i : Nat) (w : World) (hn : n ≤ 1099511627776) (hi : i < n) (h1 : g i = 34 ∨ (g i = 123 ∨ g i = 91))
    (hc : ∀ j, j < n → w.cell? ⟨b, off + j, none⟩ = some (.int .u8 (g j))) (R : Int) (hR : ((Pl.VE g n i : Nat) : Int) = R) :
    Calls Try.prog 20 #[.slice (some ⟨b, off, none⟩) n cap, .int .i64 (i : Int)] w fun e w' => e = .returned (.int .i64 R) ∧ w = w' := by
  have HC : Hid (∀ j, j < n → w.cell? ⟨b, off + j, none⟩ = some (.int .u8 (g j))) := hc
  have hcell := hc i hi
  have HR : Hid (((Pl.VE g n i : Nat) : Int) = R) := hR
  have H1 : Hid (g i = 34 ∨ (g i = 123 ∨ g i = 91)) := h1
  clear hc hR
  rcases (show (g i != 34) = false ∨ ((g i != 34) = true ∧ (g i != 123) = false) ∨ ((g i != 34) = true ∧ (g i != 123) = true ∧ (g i != 91) = false) from by rcases h1 with h | h | h <;> simp [h]) with e1 | ⟨e1, e2⟩ | ⟨e1, e2, e3⟩
  all_goals
    clear h1
    go_enter Try.func20, Try.ntmps20
    go_wp2
    clear hcell
    go_loop [9, 10, 11] (fun t9 t10 t11 => ∃ j d : Nat, i ≤ j ∧ j ≤ n ∧ d ≤ j ∧ t11 = .int .i64 j ∧ t10 = .int .i64 d ∧
        ((t9 = .int .i64 0 ∧ Hid (1 ≤ d ∧ ((Pl.VC g n d j : Nat) : Int) = R)) ∨ (t9 = .int .i64 0 ∧ Hid (d = 0 ∧ j = i)) ∨
         (t9 = .int .i64 1 ∧ Hid (((Pl.after g n d (Pl.SE g n j) : Nat) : Int) = R)) ∨ (t9 = .int .i64 2 ∧ Hid (((Pl.after g n d (Pl.SE g n (j + 1)) : Nat) : Int) = R)))) (fun _ _ t11 => n - (intOf t11).toNat)
    case atStart => exact ⟨i, 0, Nat.le_refl _, by omega, by omega, rfl, rfl, .inr (.inl ⟨rfl, rfl, rfl⟩)⟩
    case round =>
      obtain ⟨j, d, hj1, hj2, hd, rfl, rfl, hs⟩ := hrel
      by_cases hlt : j < n
      · have hcell := HC.out j hlt
        obtain ⟨x, hx⟩ : ∃ x, x = g j := ⟨_, rfl⟩
        rw [← hx] at hcell
        have HX : Hid (x = g j) := hx
        clear hx
        rcases hs with ⟨rfl, hs⟩ | ⟨rfl, hs⟩ | ⟨rfl, hs⟩ | ⟨rfl, hs⟩
        · clear HR H1
          by_cases c : x = 34
          · have c34 : (x == 34) = true := by simp [c]
            have HN : Hid (((Pl.after g n d (Pl.SE g n (j + 1)) : Nat) : Int) = R) := by
              have q := hs.out
              rw [Pl.VC_quote hlt (by rw [← HX.out]; exact c)] at q
              show _ = _
              rw [Pl.after_pos g n _ q.1]
              exact q.2
            clear c hs
            go_wp2
            go_round
            case rel => exact ⟨j + 1, d, by omega, by omega, by omega, by go_num, rfl, .inr (.inr (.inl ⟨rfl, HN⟩))⟩
            case measure => simp [intOf]; omega
          have c34 : (x == 34) = false := by simp [c]
          have n34 : Hid (¬ x = 34) := c
          clear c
          by_cases c : x = 123 ∨ x = 91
          · have HN : Hid (1 ≤ d + 1 ∧ ((Pl.VC g n (d + 1) (j + 1) : Nat) : Int) = R) := by
              have q := hs.out
              rw [Pl.VC_open hlt (by rw [← HX.out]; exact c)] at q
              exact ⟨by omega, q.2⟩
            rcases (show (x == 123) = true ∨ (x == 123) = false ∧ (x == 91) = true from by rcases c with h | h <;> simp [h]) with f2 | ⟨f2, f3⟩
            all_goals
              clear c hs
              go_wp2
              go_round
              case rel => exact ⟨j + 1, d + 1, by omega, by omega, by omega, by go_num, by go_num, .inl ⟨rfl, HN⟩⟩
              case measure => simp [intOf]; omega
          have f2 : (x == 123) = false := by simp; omega
          have f3 : (x == 91) = false := by simp; omega
          have nop : Hid (¬ (x = 123 ∨ x = 91)) := c
          clear c
          have hd1 : 1 ≤ d := hs.out.1
          by_cases c : x = 125 ∨ x = 93
          · by_cases hd2 : d = 1
            · subst hd2
              have HN : Hid (((j + 1 : Nat) : Int) = R) := by
                have q := hs.out
                rw [Pl.VC_last hlt (by rw [← HX.out]; exact c)] at q
                exact q.2
              rcases (show (x == 125) = true ∨ (x == 125) = false ∧ (x == 93) = true from by rcases c with h | h <;> simp [h]) with g2 | ⟨g2, g3⟩
              all_goals
                clear c hs
                go_wp2
                go_ret
                exact ⟨ret_val HN.out, rfl⟩
            · have HN : Hid (1 ≤ d - 1 ∧ ((Pl.VC g n (d - 1) (j + 1) : Nat) : Int) = R) := by
                have q := hs.out
                rw [Pl.VC_close hlt (by rw [← HX.out]; exact c) hd2] at q
                exact ⟨by omega, q.2⟩
              have hd3 : 2 ≤ d := by omega
              rcases (show (x == 125) = true ∨ (x == 125) = false ∧ (x == 93) = true from by rcases c with h | h <;> simp [h]) with g2 | ⟨g2, g3⟩
              all_goals
                clear c hs hd2
                go_wp2
                go_round
                case rel => exact ⟨j + 1, d - 1, by omega, by omega, by omega, by go_num, by go_num, .inl ⟨rfl, HN⟩⟩
                case measure => simp [intOf]; omega
          have g2 : (x == 125) = false := by simp; omega
          have g3 : (x == 93) = false := by simp; omega
          have HN : Hid (1 ≤ d ∧ ((Pl.VC g n d (j + 1) : Nat) : Int) = R) := by
            have q := hs.out
            have n1 := n34.out
            have n2 := nop.out
            rw [HX.out] at n1 n2 c
            rw [Pl.VC_other hlt n1 n2 c] at q
            exact q
          clear c hs
          go_wp2
          go_round
          case rel => exact ⟨j + 1, d, by omega, by omega, by omega, by go_num, rfl, .inl ⟨rfl, HN⟩⟩
          case measure => simp [intOf]; omega
        · have hd0 : d = 0 := hs.out.1
          have hji : i = j := hs.out.2.symm
          subst hd0
          subst hji
          have HV := HR.out
          have HG := H1.out
          rw [← HX.out] at HG
          clear HR H1 hs
          by_cases c : x = 34
          · have c34 : (x == 34) = true := by simp [c]
            have HN : Hid (((Pl.after g n 0 (Pl.SE g n (i + 1)) : Nat) : Int) = R) := by
              rw [Pl.VE_string (by rw [← HX.out]; exact c)] at HV
              show _ = _
              rw [Pl.after_zero]
              exact HV
            clear c HG HV
            go_wp2
            go_round
            case rel => exact ⟨i + 1, 0, by omega, by omega, by omega, by go_num, rfl, .inr (.inr (.inl ⟨rfl, HN⟩))⟩
            case measure => simp [intOf]; omega
          · have c34 : (x == 34) = false := by simp [c]
            have HO : x = 123 ∨ x = 91 := HG.resolve_left c
            have HN : Hid (1 ≤ 1 ∧ ((Pl.VC g n 1 (i + 1) : Nat) : Int) = R) := by
              have e : g i = 123 ∨ g i = 91 := by rw [← HX.out]; exact HO
              rw [Pl.VE_box e, Pl.VC_open hlt e] at HV
              exact ⟨by omega, HV⟩
            rcases (show (x == 123) = true ∨ (x == 123) = false ∧ (x == 91) = true from by rcases HO with h | h <;> simp [h]) with f2 | ⟨f2, f3⟩
            all_goals
              clear c HO HG HV
              go_wp2
              go_round
              case rel => exact ⟨i + 1, 1, by omega, by omega, by omega, by go_num, rfl, .inl ⟨rfl, HN⟩⟩
              case measure => simp [intOf]; omega
        · clear HR H1
          by_cases c : x = 92
          · have c92 : (x == 92) = true := by simp [c]
            have HN : Hid (((Pl.after g n d (Pl.SE g n (j + 1 + 1)) : Nat) : Int) = R) := by
              have q := hs.out
              rw [Pl.SE_back hlt (by rw [← HX.out]; exact c)] at q
              exact q
            clear c hs
            go_wp2
            go_round
            case rel => exact ⟨j + 1, d, by omega, by omega, by omega, by go_num, rfl, .inr (.inr (.inr ⟨rfl, HN⟩))⟩
            case measure => simp [intOf]; omega
          have c92 : (x == 92) = false := by simp [c]
          have n92 : Hid (¬ x = 92) := c
          clear c
          by_cases c : x = 34
          · have c34 : (x == 34) = true := by simp [c]
            have HN : Hid (((Pl.after g n d (j + 1) : Nat) : Int) = R) := by
              have q := hs.out
              rw [Pl.SE_quote hlt (by rw [← HX.out]; exact c)] at q
              exact q
            clear c hs
            by_cases hd0 : d = 0
            · subst hd0
              have HM : Hid (((j + 1 : Nat) : Int) = R) := by
                have q := HN.out
                rw [Pl.after_zero] at q
                exact q
              clear HN
              go_wp2
              go_ret
              exact ⟨ret_val HM.out, rfl⟩
            · have hd1 : 1 ≤ d := by omega
              have HM : Hid (1 ≤ d ∧ ((Pl.VC g n d (j + 1) : Nat) : Int) = R) := by
                have q := HN.out
                rw [Pl.after_pos g n _ hd1] at q
                exact ⟨hd1, q⟩
              clear HN hd0
              go_wp2
              go_round
              case rel => exact ⟨j + 1, d, by omega, by omega, by omega, by go_num, rfl, .inl ⟨rfl, HM⟩⟩
              case measure => simp [intOf]; omega
          have c34 : (x == 34) = false := by simp [c]
          have HN : Hid (((Pl.after g n d (Pl.SE g n (j + 1)) : Nat) : Int) = R) := by
            have q := hs.out
            have n1 := n92.out
            rw [HX.out] at n1 c
            rw [Pl.SE_other hlt n1 c] at q
            exact q
          clear c hs
          go_wp2
          go_round
          case rel => exact ⟨j + 1, d, by omega, by omega, by omega, by go_num, rfl, .inr (.inr (.inl ⟨rfl, HN⟩))⟩
          case measure => simp [intOf]; omega
        · clear HR H1
          go_wp2
          go_round
          case rel => exact ⟨j + 1, d, by omega, by omega, by omega, by go_num, rfl, .inr (.inr (.inl ⟨rfl, hs⟩))⟩
          case measure => simp [intOf]; omega
      · obtain rfl : n = j := by omega
        rcases hs with ⟨rfl, hs⟩ | ⟨rfl, hs⟩ | ⟨rfl, hs⟩ | ⟨rfl, hs⟩
        · have HN : Hid ((n : Int) = R) := by
            have q := hs.out.2
            rw [Pl.VC_out (Nat.le_refl _)] at q
            exact q
          clear hs HR H1
          go_wp2
          go_ret
          exact ⟨ret_val HN.out, rfl⟩
        · have := hs.out.2
          omega
        · have HN : Hid ((n : Int) = R) := by
            have q := hs.out
            rw [Pl.SE_out (Nat.le_refl _), Pl.after_out _ _ _ _ (Nat.le_refl _)] at q
            exact q
          clear hs HR H1
          go_wp2
          go_ret
          exact ⟨ret_val HN.out, rfl⟩
        · have HN : Hid (((n + 1 : Nat) : Int) = R) := by
            have q := hs.out
            rw [Pl.SE_out (by omega), Pl.after_out _ _ _ _ (by omega)] at q
            exact q
          clear hs HR H1
          go_wp2
          go_ret
          exact ⟨ret_val HN.out, rfl⟩

theorem valueEndModel_to (g : Nat → Int) (b off n cap : Nat) (i : Int) (w : World) (hn : n ≤ 1099511627776) (h0 : 0 ≤ i) (hi : i < n)
    (hc : ∀ j, j < n → w.cell? ⟨b, off + j, none⟩ = some (.int .u8 (g j))) (R : Int) (hR : ((Pl.VE g n i.toNat : Nat) : Int) = R) :
    Calls Try.prog 20 #[.slice (some ⟨b, off, none⟩) n cap, .int .i64 i] w fun e w' => e = .returned (.int .i64 R) ∧ w = w' := by
  obtain ⟨i, rfl⟩ := Int.eq_ofNat_of_zero_le h0
  rw [Int.toNat_natCast] at hR
  by_cases h1 : g i = 34 ∨ (g i = 123 ∨ g i = 91)
  · exact model_auto g b off n cap i w hn (by omega) h1 hc R hR
  · rw [Pl.VE_bare (fun h => h1 (.inl h)) (fun h => h1 (.inr h))] at hR
    exact model_bare g b off n cap i w hn (by omega) (fun h => h1 (.inl h)) (fun h => h1 (.inr h)) hc R hR

end Go.Proofs.Qxb6619197a
