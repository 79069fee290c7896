/-
  THE WALKS OF THE READERS: skipSpace, stringEnd, valueEnd over a slice of bytes whose cells are known.
-/
import Derived.Test.Qxb6619197aRows
import Derived.Test.Qxb6619197aPlain
import Derived.WalkKit
import Derived.WalkSpells
import Derived.WalkLawsBesides
namespace Go.Proofs.Qxb6619197a
open Go.RowKit

set_option maxHeartbeats 400000 in
theorem stringEnd_any (g : Nat → Int) (b off n cap : Nat) (i : Int) (w : World) (hn : n ≤ 1099511627776) (h0 : 0 ≤ i) (hi : i ≤ n)
    (hc : ∀ j, j < n → w.cell? ⟨b, off + j, none⟩ = some (.int .u8 (g j))) :
    Calls Try.prog 25 #[.slice (some ⟨b, off, none⟩) n cap, .int .i64 i] w fun e w' => e = .returned (.int .i64 (Pl.SE g n (i.toNat + 1) : Nat)) ∧ w = w' := by
  obtain ⟨i, rfl⟩ := Int.eq_ofNat_of_zero_le h0
  rw [Int.toNat_natCast]
  obtain ⟨R, hR⟩ : ∃ R, R = Pl.SE g n (i + 1) := ⟨_, rfl⟩
  rw [← hR]
  have HR : Hid (R = Pl.SE g n (i + 1)) := hR
  clear hR
  have hi' : i ≤ n := by omega
  clear h0 hi
  go_enter Try.func25, Try.ntmps25
  go_wp2
  go_loop [1] (fun t => ∃ k : Nat, k ≤ n + 1 ∧ t = .int .i64 k ∧ Hid (R = Pl.SE g n k)) (fun t => n + 1 - (intOf t).toNat)
  case atStart => exact ⟨i + 1, by omega, by go_num, HR⟩
  case round =>
    obtain ⟨k, hk, rfl, hs⟩ := hrel
    by_cases hlt : k < n
    · have hcell := hc k hlt
      clear hc
      by_cases h1 : g k = 92
      · have e1 : (g k == 92) = true := by simp [h1]
        have H1 : Hid (g k = 92) := h1
        clear h1
        go_wp2
        go_round
        case rel => exact ⟨k + 2, by omega, by go_num, hs.out.trans (Pl.SE_back hlt H1.out)⟩
        case measure => simp [intOf]; omega
      · have e1 : (g k == 92) = false := by simp [h1]
        by_cases h2 : g k = 34
        · have e2 : (g k == 34) = true := by simp [h2]
          have H2 : Hid (g k = 34) := h2
          clear h1 h2
          go_wp2
          go_ret
          exact ⟨by rw [hs.out, Pl.SE_quote hlt H2.out]; rfl, rfl⟩
        · have e2 : (g k == 34) = false := by simp [h2]
          go_wp2
          go_round
          case rel => exact ⟨k + 1, by omega, by go_num, hs.out.trans (Pl.SE_other hlt h1 h2)⟩
          case measure => simp [intOf]; omega
    · clear hc
      go_wp2
      go_ret
      exact ⟨by rw [hs.out, Pl.SE_out (by omega)]; rfl, rfl⟩

set_option maxHeartbeats 400000 in
theorem ZZstringEnd_any (g : Nat → Int) (b off n cap : Nat) (i : Int) (w : World) (hn : n ≤ 1099511627776) (h0 : 0 ≤ i) (hi : i ≤ n)
    (hc : ∀ j, j < n → w.cell? ⟨b, off + j, none⟩ = some (.int .u8 (g j))) :
    Calls Try.prog 16 #[.slice (some ⟨b, off, none⟩) n cap, .int .i64 i] w fun e w' => e = .returned (.int .i64 (Pl.SE g n (i.toNat + 1) : Nat)) ∧ w = w' := by
  have H : Hid (∀ j, j < n → w.cell? ⟨b, off + j, none⟩ = some (.int .u8 (g j))) := hc
  clear hc
  go_enter Try.func16, Try.ntmps16
  go_wp2_with (go_at_call 25; refine (stringEnd_any g b off n cap i _ hn h0 hi (by exact H.out)).mono ?_; rintro e w' ⟨rfl, rfl⟩)
  go_ret
  exact ⟨rfl, rfl⟩

theorem ZZstringEnd_to (g : Nat → Int) (b off n cap : Nat) (i : Int) (w : World) (hn : n ≤ 1099511627776) (h0 : 0 ≤ i) (hi : i ≤ n)
    (hc : ∀ j, j < n → w.cell? ⟨b, off + j, none⟩ = some (.int .u8 (g j))) (r : Int) (hr : ((Pl.SE g n (i.toNat + 1) : Nat) : Int) = r) :
    Calls Try.prog 16 #[.slice (some ⟨b, off, none⟩) n cap, .int .i64 i] w fun e w' => e = .returned (.int .i64 r) ∧ w = w' := by
  subst hr
  exact ZZstringEnd_any g b off n cap i w hn h0 hi hc

theorem zzIsBlank_any (x : Int) (w : World) : Calls Try.prog 11 #[.int .u8 x] w fun e w' => e = .returned (.bool (Pl.blank x)) ∧ w = w' := by
  by_cases h1 : x = 32
  · rw [Pl.blank_yes (.inl h1)]
    subst h1
    go_enter Try.func11, Try.ntmps11
    go_wp2
    go_ret
    exact ⟨rfl, rfl⟩
  have e1 : (x == 32) = false := by simp [h1]
  by_cases h2 : x = 9
  · rw [Pl.blank_yes (.inr (.inl h2))]
    subst h2
    go_enter Try.func11, Try.ntmps11
    go_wp2
    go_ret
    exact ⟨rfl, rfl⟩
  have e2 : (x == 9) = false := by simp [h2]
  by_cases h3 : x = 10
  · rw [Pl.blank_yes (.inr (.inr (.inl h3)))]
    subst h3
    go_enter Try.func11, Try.ntmps11
    go_wp2
    go_ret
    exact ⟨rfl, rfl⟩
  have e3 : (x == 10) = false := by simp [h3]
  by_cases h4 : x = 13
  · rw [Pl.blank_yes (.inr (.inr (.inr h4)))]
    subst h4
    go_enter Try.func11, Try.ntmps11
    go_wp2
    go_ret
    exact ⟨rfl, rfl⟩
  have e4 : (x == 13) = false := by simp [h4]
  rw [Pl.blank_no h1 h2 h3 h4]
  clear h1 h2 h3 h4
  go_enter Try.func11, Try.ntmps11
  go_wp2
  go_ret
  exact ⟨rfl, rfl⟩

set_option maxHeartbeats 1000000 in
theorem skipSpace_any (g : Nat → Int) (b off n cap : Nat) (i : Int) (w : World) (hn : n ≤ 1099511627776) (h0 : 0 ≤ i)
    (hc : ∀ j, j < n → w.cell? ⟨b, off + j, none⟩ = some (.int .u8 (g j))) :
    Calls Try.prog 24 #[.slice (some ⟨b, off, none⟩) n cap, .int .i64 i] w fun e w' => e = .returned (.int .i64 (Pl.SK g n i.toNat : Nat)) ∧ w = w' := by
  obtain ⟨i, rfl⟩ := Int.eq_ofNat_of_zero_le h0
  rw [Int.toNat_natCast]
  obtain ⟨R, hR⟩ : ∃ R, R = Pl.SK g n i := ⟨_, rfl⟩
  rw [← hR]
  have HR : Hid (R = Pl.SK g n i) := hR
  clear hR h0
  go_enter Try.func24, Try.ntmps24
  go_wp2
  go_loop [1] (fun t => ∃ k : Nat, t = .int .i64 k ∧ Hid (R = Pl.SK g n k)) (fun t => n - (intOf t).toNat)
  case atStart => exact ⟨i, rfl, HR⟩
  case round =>
    obtain ⟨k, rfl, hs⟩ := hrel
    by_cases hlt : k < n
    · have hcell := hc k hlt
      clear hc
      by_cases h1 : g k = 32
      · have e1 : (g k == 32) = true := by simp [h1]
        have B : Hid (Pl.blank (g k) = true) := Pl.blank_yes (.inl h1)
        clear h1
        go_wp2
        go_round
        case rel => exact ⟨k + 1, by go_num, hs.out.trans (Pl.SK_blank hlt B.out)⟩
        case measure => simp [intOf]; omega
      have e1 : (g k == 32) = false := by simp [h1]
      by_cases h2 : g k = 9
      · have e2 : (g k == 9) = true := by simp [h2]
        have B : Hid (Pl.blank (g k) = true) := Pl.blank_yes (.inr (.inl h2))
        clear h1 h2
        go_wp2
        go_round
        case rel => exact ⟨k + 1, by go_num, hs.out.trans (Pl.SK_blank hlt B.out)⟩
        case measure => simp [intOf]; omega
      have e2 : (g k == 9) = false := by simp [h2]
      by_cases h3 : g k = 10
      · have e3 : (g k == 10) = true := by simp [h3]
        have B : Hid (Pl.blank (g k) = true) := Pl.blank_yes (.inr (.inr (.inl h3)))
        clear h1 h2 h3
        go_wp2
        go_round
        case rel => exact ⟨k + 1, by go_num, hs.out.trans (Pl.SK_blank hlt B.out)⟩
        case measure => simp [intOf]; omega
      have e3 : (g k == 10) = false := by simp [h3]
      by_cases h4 : g k = 13
      · have e4 : (g k == 13) = true := by simp [h4]
        have B : Hid (Pl.blank (g k) = true) := Pl.blank_yes (.inr (.inr (.inr h4)))
        clear h1 h2 h3 h4
        go_wp2
        go_round
        case rel => exact ⟨k + 1, by go_num, hs.out.trans (Pl.SK_blank hlt B.out)⟩
        case measure => simp [intOf]; omega
      have e4 : (g k == 13) = false := by simp [h4]
      have B : Hid (Pl.blank (g k) = false) := Pl.blank_no h1 h2 h3 h4
      clear h1 h2 h3 h4
      go_wp2
      go_ret
      exact ⟨by rw [hs.out, Pl.SK_stop hlt B.out]; rfl, rfl⟩
    · clear hc
      go_wp2
      go_ret
      exact ⟨by rw [hs.out, Pl.SK_out (by omega)]; rfl, rfl⟩

/-- An empty slice, nil or not. -/
theorem skipSpace_empty (a : Option Addr) (cap : Nat) (i : Int) (w : World) (h0 : 0 ≤ i) :
    Calls Try.prog 24 #[.slice a 0 cap, .int .i64 i] w fun e w' => e = .returned (.int .i64 i) ∧ w = w' := by
  go_enter Try.func24, Try.ntmps24
  go_wp2
  refine wp_loop_rounds 1 ?_
  rw [rounds_succ]
  go_wp2
  go_ret
  exact ⟨rfl, rfl⟩

set_option maxHeartbeats 400000 in
theorem ZZskipSpace_any (g : Nat → Int) (b off n cap : Nat) (i : Int) (w : World) (hn : n ≤ 1099511627776) (h0 : 0 ≤ i)
    (hc : ∀ j, j < n → w.cell? ⟨b, off + j, none⟩ = some (.int .u8 (g j))) :
    Calls Try.prog 10 #[.slice (some ⟨b, off, none⟩) n cap, .int .i64 i] w fun e w' => e = .returned (.int .i64 (Pl.SK g n i.toNat : Nat)) ∧ w = w' := by
  have H : Hid (∀ j, j < n → w.cell? ⟨b, off + j, none⟩ = some (.int .u8 (g j))) := hc
  clear hc
  go_enter Try.func10, Try.ntmps10
  go_wp2_with (go_at_call 24; refine (skipSpace_any g b off n cap i _ hn h0 (by exact H.out)).mono ?_; rintro e w' ⟨rfl, rfl⟩)
  go_ret
  exact ⟨rfl, rfl⟩

theorem ZZskipSpace_empty (a : Option Addr) (cap : Nat) (i : Int) (w : World) (h0 : 0 ≤ i) :
    Calls Try.prog 10 #[.slice a 0 cap, .int .i64 i] w fun e w' => e = .returned (.int .i64 i) ∧ w = w' := by
  go_enter Try.func10, Try.ntmps10
  go_wp2_with (go_at_call 24; refine (skipSpace_empty a cap i _ h0).mono ?_; rintro e w' ⟨rfl, rfl⟩)
  go_ret
  exact ⟨rfl, rfl⟩

end Go.Proofs.Qxb6619197a
