/-
  THE WALK OF 'FnTrimTrailingSpacesPadding'.
-/
import Derived.Test.Qxb6619288aWalkA
import Derived.Test.Qxb6619288aOwn
import Derived.Test.Qxb6619288aStr
namespace Go.Proofs.Qxb6619288a
open Go.RowKit

theorem bytes11_yes (s : ByteArray) (n : Int) (w : World) (h : s.size ≤ 1048576) :
    Calls Try.prog 11 #[.string s, .int .i64 n] w fun e w' => e = .returned (.bool true) ∧ w = w' := by
  go_enter Try.func11, Try.ntmps11
  go_wp2
  go_ret
  exact ⟨rfl, rfl⟩
theorem bytes11_no (s : ByteArray) (n : Int) (w : World) (h : 1048576 < s.size) :
    Calls Try.prog 11 #[.string s, .int .i64 n] w fun e w' => e = .returned (.bool false) ∧ w = w' := by
  go_enter Try.func11, Try.ntmps11
  go_wp2
  go_ret
  exact ⟨rfl, rfl⟩
theorem pad_no (s : ByteArray) (n : Int) (w : World) (h : 1048576 < s.size) :
    Calls Try.prog 4 #[.string s, .int .i64 n] w fun e w' => e = .returned (.bool true) ∧ Grown w w' := by
  go_enter Try.func4, Try.ntmps4
  go_wp2_with (go_at_call 11; refine (bytes11_no _ _ _ h).mono ?_; rintro e w' ⟨rfl, rfl⟩)
  go_ret
  exact ⟨rfl, Grown.refl _⟩
theorem pad_long (s : ByteArray) (n : Int) (w : World) (h1 : s.size ≤ 1048576) (h : 65536 < s.size) :
    Calls Try.prog 4 #[.string s, .int .i64 n] w fun e w' => e = .returned (.bool true) ∧ Grown w w' := by
  go_enter Try.func4, Try.ntmps4
  go_wp2_with (go_at_call 11; refine (bytes11_yes _ _ _ h1).mono ?_; rintro e w' ⟨rfl, rfl⟩)
  go_ret
  exact ⟨rfl, Grown.refl _⟩
theorem pad_out (s : ByteArray) (n : Int) (w : World) (h : s.size ≤ 65536) (hn : n < 0 ∨ 4096 < n) :
    Calls Try.prog 4 #[.string s, .int .i64 n] w fun e w' => e = .returned (.bool true) ∧ Grown w w' := by
  rcases hn with hn | hn
  · go_enter Try.func4, Try.ntmps4
    go_wp2_with (go_at_call 11; refine (bytes11_yes _ _ _ (by omega)).mono ?_; rintro e w' ⟨rfl, rfl⟩)
    go_ret
    exact ⟨rfl, Grown.refl _⟩
  · have hn' : 0 ≤ n := by omega
    go_enter Try.func4, Try.ntmps4
    go_wp2_with (go_at_call 11; refine (bytes11_yes _ _ _ (by omega)).mono ?_; rintro e w' ⟨rfl, rfl⟩)
    go_ret
    exact ⟨rfl, Grown.refl _⟩

/-- What the trimmed text is, case by case. -/
theorem pad_cases (s : ByteArray) (n : Nat) : ∃ R : ByteArray, (s ++ Pl.spaces n).extract 0 (Pl.cut (Pl.gs (s ++ Pl.spaces n)) (s ++ Pl.spaces n).size) = R ∧
    ((∃ q, s.size = q + 1 ∧ Pl.gs s q = 32 ∧ s.extract 0 (Pl.cut (Pl.gs s) s.size) = R) ∨
     (s.size = 0 ∧ R = s) ∨
     (∃ q, s.size = q + 1 ∧ Pl.gs s q ≠ 32 ∧ 1 ≤ n ∧ Pl.odd (Pl.gs s) s.size = true ∧ R = s ++ ⟨#[32]⟩) ∨
     (∃ q, s.size = q + 1 ∧ Pl.gs s q ≠ 32 ∧ 1 ≤ n ∧ Pl.odd (Pl.gs s) s.size = false ∧ R = s) ∨
     (∃ q, s.size = q + 1 ∧ Pl.gs s q ≠ 32 ∧ n = 0 ∧ R = s)) := by
  by_cases h0 : s.size = 0
  · have ho : Pl.odd (Pl.gs s) s.size = false := by rw [h0]; rfl
    exact ⟨s, Pl.trim_even s n (fun h => by omega) (.inr ho), .inr (.inl ⟨h0, rfl⟩)⟩
  · obtain ⟨q, hq⟩ : ∃ q, s.size = q + 1 := ⟨s.size - 1, by omega⟩
    by_cases hl : Pl.gs s q = 32
    · exact ⟨_, Pl.trim_space s n (by omega) (by rw [hq]; exact hl), .inl ⟨q, hq, hl, rfl⟩⟩
    · have hl' : ¬ (0 < s.size ∧ Pl.gs s (s.size - 1) = 32) := fun h => hl (by have := h.2; rw [hq] at this; exact this)
      by_cases hn : n = 0
      · exact ⟨s, Pl.trim_even s n hl' (.inl hn), .inr (.inr (.inr (.inr ⟨q, hq, hl, hn, rfl⟩)))⟩
      · cases ho : Pl.odd (Pl.gs s) s.size with
        | true => exact ⟨_, Pl.trim_odd s n hl' (by omega) ho, .inr (.inr (.inl ⟨q, hq, hl, by omega, rfl, rfl⟩))⟩
        | false => exact ⟨s, Pl.trim_even s n hl' (.inr ho), .inr (.inr (.inr (.inl ⟨q, hq, hl, by omega, rfl, rfl⟩)))⟩

set_option maxHeartbeats 2000000 in
theorem pad_walk (s : ByteArray) (n : Nat) (w : World) (h : s.size ≤ 65536) (hn : n ≤ 4096) :
    Calls Try.prog 4 #[.string s, .int .i64 (n : Int)] w fun e w' => e = .returned (.bool true) ∧ Grown w w' := by
  obtain ⟨R, hR, hcs⟩ := pad_cases s n
  have HR : Hid ((s ++ Pl.spaces n).extract 0 (Pl.cut (Pl.gs (s ++ Pl.spaces n)) (s ++ Pl.spaces n).size) = R) := hR
  have HCS := hcs
  have HCS' : Hid _ := HCS
  clear hR hcs HCS
  have d1 : decide ((65536 : Int) < (s.size : Int)) = false := by simp; omega
  have d2 : decide ((n : Int) < 0) = false := by simp
  have d3 : decide ((4096 : Int) < (n : Int)) = false := by simp; omega
  go_enter Try.func4, Try.ntmps4
  go_wp2_with (first
    | (go_at_call 11; refine (bytes11_yes _ _ _ (by omega)).mono ?_; rintro e w' ⟨rfl, rfl⟩)
    | (at_make; refine wpList_rowFull elem5 rfl (.tmp 21) (.tmp 21) rfl _ _ _ _ n rfl rfl (by omega) (by omega) (by omega) ?_; intro w1 row1 gr1))
  have gr : Grown w w1 := gr1 w (Grown.refl _)
  clear gr1
  go_loopw [6] (fun t wr => ∃ k : Nat, k ≤ n ∧ t = .int .i64 k ∧ Row wr 5 .u8 w.heap.size n n (Pl.fill n k) ∧ Grown w wr) (fun t _ => n - (intOf t).toNat)
  case atStart => exact ⟨0, Nat.zero_le _, rfl, by rw [Pl.fill_zero]; exact row1, gr⟩
  case round =>
    obtain ⟨k, hk, rfl, row, grw⟩ := hrel
    clear row1 gr
    by_cases hlt : k < n
    · have hcell := row.cellAt hlt
      have hfz := row.frozenAt k
      clear HR HCS'
      go_wp2
      go_roundw
      case rel => exact ⟨k + 1, by omega, by go_num, by rw [← Pl.fill_set n k hlt]; exact row.stored k 32, grw.setCell (Nat.le_refl _) _⟩
      case measure => simp [intOf]; omega
    · obtain rfl : n = k := by omega
      have hcv : (convert 25 9 (.slice (some ⟨w.heap.size, 0, none⟩) n n)).run Try.prog wr = .ok (.string (Pl.spaces n)) wr :=
        run_convert_bytes_arg (P := Try.prog) wr 25 5 Try.underlying25 Try.underlying5 w.heap.size 0 n n (List.replicate n 32) (by simp) (by rw [← Pl.fill_all]; exact row.cells) 9 Try.underlying9
      have hsz : (Pl.spaces n).size ≤ 4096 := by rw [Pl.spaces_size]; exact hn
      go_wp2_with fail
      refine (ZZtrim_to (s ++ Pl.spaces n) _ (by rw [Pl.pad_size]; omega) R HR.out).mono ?_
      rintro e w' ⟨rfl, rfl⟩
      clear hcv hsz HR row
      rcases HCS'.out with ⟨q, hq, hl, hR2⟩ | ⟨hm, hR2⟩ | ⟨q, hq, hl, hn1, ho, hR2⟩ | ⟨q, hq, hl, hn1, ho, hR2⟩ | ⟨q, hq, hl, hn1, hR2⟩
      · have hp : 0 < s.size := by omega
        have hlt : s.size - 1 < s.size := by omega
        have f : (((s[s.size - 1]'hlt).toNat : Int) == 32) = true := by
          rw [← Pl.gs_at hlt, show s.size - 1 = q by omega]; simp [hl]
        have HR2 : Hid (s.extract 0 (Pl.cut (Pl.gs s) s.size) = R) := hR2
        clear hq hl hR2 HCS'
        go_wp2_with fail
        refine (ZZtrim_to s _ (by omega) R HR2.out).mono ?_
        rintro e w' ⟨rfl, rfl⟩
        go_wp2_with fail
        go_ret
        exact ⟨by simp, grw⟩
      · subst hR2
        have hs0 : (R.size : Int) ≤ 0 := by omega
        have HO : Hid (Pl.odd (Pl.gs R) (R.size : Int).toNat = false) := by
          show _ = _
          rw [Int.toNat_natCast, hm]
          rfl
        clear hm HCS'
        by_cases hn0 : n = 0
        · subst hn0
          go_wp2_with fail
          go_ret
          exact ⟨by simp, grw⟩
        · have hn1 : 1 ≤ n := by omega
          clear hn0
          go_wp2_with fail
          refine (odd_any R _ _ (by omega) (by omega) (by omega)).mono ?_
          rintro e w' ⟨rfl, rfl⟩
          rw [HO.out]
          go_wp2_with fail
          go_ret
          exact ⟨by simp, grw⟩
      · subst hR2
        have hp : 0 < s.size := by omega
        have hlt : s.size - 1 < s.size := by omega
        have f : (((s[s.size - 1]'hlt).toNat : Int) == 32) = false := by
          rw [← Pl.gs_at hlt, show s.size - 1 = q by omega]; simp [hl]
        have HO : Hid (Pl.odd (Pl.gs s) (s.size : Int).toNat = true) := by
          show _ = _
          rw [Int.toNat_natCast]
          exact ho
        clear hq hl ho HCS'
        go_wp2_with fail
        refine (odd_any s _ _ (by omega) (by omega) (by omega)).mono ?_
        rintro e w' ⟨rfl, rfl⟩
        rw [HO.out]
        go_wp2_with fail
        go_ret
        exact ⟨by simp, grw⟩
      · subst hR2
        have hp : 0 < R.size := by omega
        have hlt : R.size - 1 < R.size := by omega
        have f : (((R[R.size - 1]'hlt).toNat : Int) == 32) = false := by
          rw [← Pl.gs_at hlt, show R.size - 1 = q by omega]; simp [hl]
        have HO : Hid (Pl.odd (Pl.gs R) (R.size : Int).toNat = false) := by
          show _ = _
          rw [Int.toNat_natCast]
          exact ho
        clear hq hl ho HCS'
        go_wp2_with fail
        refine (odd_any R _ _ (by omega) (by omega) (by omega)).mono ?_
        rintro e w' ⟨rfl, rfl⟩
        rw [HO.out]
        go_wp2_with fail
        go_ret
        exact ⟨by simp, grw⟩
      · subst hR2 hn1
        have hp : 0 < R.size := by omega
        have hlt : R.size - 1 < R.size := by omega
        have f : (((R[R.size - 1]'hlt).toNat : Int) == 32) = false := by
          rw [← Pl.gs_at hlt, show R.size - 1 = q by omega]; simp [hl]
        clear hq hl HCS'
        go_wp2_with fail
        go_ret
        exact ⟨by simp, grw⟩

end Go.Proofs.Qxb6619288a
