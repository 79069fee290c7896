/-
  THE WALK OF 'FnSkipSpaceOverBlankPrefix'.
-/
import Derived.Test.Qxb6619197aSkip1
import Derived.Test.Qxb6619197aPad
namespace Go.Proofs.Qxb6619197a
open Go.RowKit

theorem zzBlankOf_any (x : Int) (w : World) (h0 : 0 ≤ x) (h1 : x ≤ 255) : Calls Try.prog 13 #[.int .u8 x] w fun e w' => e = .returned (.int .u8 (Pl.blankOf x)) ∧ w = w' := by
  unfold Pl.blankOf
  by_cases c0 : x % 4 = 0
  · rw [if_pos c0]
    have e0 : (x % 4 == 0) = true := by simp; omega
    clear c0
    go_enter Try.func13, Try.ntmps13
    go_wp2
    go_ret
    exact ⟨rfl, rfl⟩
  rw [if_neg c0]
  have e0 : (x % 4 == 0) = false := by simp; omega
  by_cases c1 : x % 4 = 1
  · rw [if_pos c1]
    have e1 : (x % 4 == 1) = true := by simp; omega
    clear c0 c1
    go_enter Try.func13, Try.ntmps13
    go_wp2
    go_ret
    exact ⟨rfl, rfl⟩
  rw [if_neg c1]
  have e1 : (x % 4 == 1) = false := by simp; omega
  by_cases c2 : x % 4 = 2
  · rw [if_pos c2]
    have e2 : (x % 4 == 2) = true := by simp; omega
    clear c0 c1 c2
    go_enter Try.func13, Try.ntmps13
    go_wp2
    go_ret
    exact ⟨rfl, rfl⟩
  rw [if_neg c2]
  have e2 : (x % 4 == 2) = false := by simp; omega
  clear c0 c1 c2
  go_enter Try.func13, Try.ntmps13
  go_wp2
  go_ret
  exact ⟨rfl, rfl⟩

theorem bytes12_yes (a0 a1 : Option Addr) (l0 c0 l1 c1 : Nat) (i : Int) (w : World) (h : l0 + l1 ≤ 1048576) :
    Calls Try.prog 12 #[.slice a0 l0 c0, .slice a1 l1 c1, .int .i64 i] w fun e w' => e = .returned (.bool true) ∧ w = w' := by
  go_enter Try.func12, Try.ntmps12
  go_wp2
  go_ret
  exact ⟨rfl, rfl⟩
theorem bytes12_no (a0 a1 : Option Addr) (l0 c0 l1 c1 : Nat) (i : Int) (w : World) (m0 : l0 ≤ maxLen) (m1 : l1 ≤ maxLen) (h : 1048576 < l0 + l1) :
    Calls Try.prog 12 #[.slice a0 l0 c0, .slice a1 l1 c1, .int .i64 i] w fun e w' => e = .returned (.bool false) ∧ w = w' := by
  unfold maxLen at m0 m1
  go_enter Try.func12, Try.ntmps12
  go_wp2
  all_goals
    go_ret
    exact ⟨rfl, rfl⟩

theorem sk2_no (a0 a1 : Option Addr) (l0 c0 l1 c1 : Nat) (i : Int) (w : World) (m0 : l0 ≤ maxLen) (m1 : l1 ≤ maxLen) (h : 1048576 < l0 + l1) :
    Calls Try.prog 4 #[.slice a0 l0 c0, .slice a1 l1 c1, .int .i64 i] w fun e w' => e = .returned (.bool true) ∧ Below w.heap.size w w' := by
  go_enter Try.func4, Try.ntmps4
  go_wp2_with (go_at_call 12; refine (bytes12_no _ _ _ _ _ _ _ _ m0 m1 h).mono ?_; rintro e w' ⟨rfl, rfl⟩)
  go_ret
  exact ⟨rfl, Below.refl _ _⟩
theorem sk2_out (a0 a1 : Option Addr) (l0 c0 l1 c1 : Nat) (i : Int) (w : World) (h : l0 + l1 ≤ 1048576) (hi : i < 0 ∨ (l0 : Int) < i) :
    Calls Try.prog 4 #[.slice a0 l0 c0, .slice a1 l1 c1, .int .i64 i] w fun e w' => e = .returned (.bool true) ∧ Below w.heap.size w w' := by
  rcases hi with hi | hi
  · go_enter Try.func4, Try.ntmps4
    go_wp2_with (go_at_call 12; refine (bytes12_yes _ _ _ _ _ _ _ _ h).mono ?_; rintro e w' ⟨rfl, rfl⟩)
    go_ret
    exact ⟨rfl, Below.refl _ _⟩
  · have hi' : 0 ≤ i := by omega
    go_enter Try.func4, Try.ntmps4
    go_wp2_with (go_at_call 12; refine (bytes12_yes _ _ _ _ _ _ _ _ h).mono ?_; rintro e w' ⟨rfl, rfl⟩)
    go_ret
    exact ⟨rfl, Below.refl _ _⟩

theorem sk2_facts (A W : List Int) (l0 l1 i : Nat) (hA : A.length = l0) (hW : W.length = l1) (hi : i ≤ l0) : ∃ r : Nat, r ≤ l1 ∧ ((Pl.SK (Pl.G W) l1 ((0 : Int).toNat) : Nat) : Int) = r ∧ ((Pl.SK (Pl.G (Pl.pads A l0 ++ W)) (l0 + l1) ((i : Int).toNat) : Nat) : Int) = (l0 : Int) + r := by
  subst hA hW
  refine ⟨Pl.SK (Pl.G W) W.length 0, (Pl.SK_spec (Pl.G W) W.length W.length 0 (by omega)).2.1 (by omega), rfl, ?_⟩
  rw [Int.toNat_natCast, Pl.SK_padded A W i hi]
  omega

set_option maxHeartbeats 2000000 in
theorem sk2_some (a0 : Option Addr) (l0 c0 : Nat) (A : List Int) (ad : Addr) (l1 c1 : Nat) (W : List Int) (i : Nat) (w : World) (hp : Src w .u8 a0 l0 c0 A) (hby : ∀ j, 0 ≤ A.getD j 0 ∧ A.getD j 0 ≤ 255) (hw : Src w .u8 (some ad) l1 c1 W) (h : l0 + l1 ≤ 1048576) (hi : i ≤ l0) :
    Calls Try.prog 4 #[.slice a0 l0 c0, .slice (some ad) l1 c1, .int .i64 (i : Int)] w fun e w' => e = .returned (.bool true) ∧ Below w.heap.size w w' := by
  have hq := neq22
  obtain ⟨r, hr, r1, r2⟩ := sk2_facts A W l0 l1 i hp.len hw.len hi
  have H1 : Hid (((Pl.SK (Pl.G W) l1 ((0 : Int).toNat) : Nat) : Int) = r) := r1
  have H2 : Hid (((Pl.SK (Pl.G (Pl.pads A l0 ++ W)) (l0 + l1) ((i : Int).toNat) : Nat) : Int) = (l0 : Int) + r) := r2
  have HB : Hid (∀ j, 0 ≤ A.getD j 0 ∧ A.getD j 0 ≤ 255) := hby
  clear r1 r2 hby
  have d1 : decide ((1048576 : Int) < (l0 : Int)) = false := by simp; omega
  have d2 : decide ((1048576 : Int) < (l1 : Int)) = false := by simp; try omega
  have d3 : decide ((1048576 : Int) < (l0 : Int) + (l1 : Int)) = false := by simp; omega
  have d4 : decide ((i : Int) < 0) = false := by simp
  have d5 : decide ((l0 : Int) < (i : Int)) = false := by simp; omega
  have d6 : decide (l0 < i) = false := by simp; omega
  go_enter Try.func4, Try.ntmps4
  go_wp2_with (first
    | (go_at_call 12; refine (bytes12_yes _ _ _ _ _ _ _ _ h).mono ?_; rintro e w' ⟨rfl, rfl⟩)
    | (at_make; refine wpList_rowFull elem5' rfl (.tmp 40) (.tmp 40) rfl _ _ _ _ l1 rfl rfl (by omega) (by omega) (by omega) ?_; intro w1 row1 gr1; have bel1 : Below w.heap.size w w1 := (Below.refl _ _).grown gr1 (Nat.le_refl _) (fun k h => by cases h))
    | (with_reducible show wpList _ _ _ ({ dst := _, op := Op.call { callee := Callee.builtin Builtin.copy, args := _, argTypes := _ }, type := _, pos := _, after := _, guard := _ } :: _) _ _; refine wpList_rowCopy elem5' rfl (.tmp 42) (.tmp 43) rfl w.heap.size l1 _ rfl row1 _ _ W rfl (hw.later bel1) ?_; intro w2 row2 gr2; have bel2 : Below w.heap.size w w2 := bel1.grown gr2 bel1.size (fun k h => by cases h; exact Nat.le_refl _))
    | (at_make; refine wpList_rowMake elem5' rfl (.const (.int .i64 0)) (.tmp 50) rfl _ _ _ (l0 + l1) rfl rfl (by omega) (by omega) ?_; intro w3 row3 gr3; have bel3 : Below w.heap.size w w3 := bel2.grown gr3 bel2.size (fun k h => by cases h); have row23 := row2.kept0 gr3))
  have hne : w.heap.size < w2.heap.size := row2.lt
  clear hw row1 gr1 gr2 gr3 bel1 row2
  go_loopw [8, 9] (fun v j wr => ∃ k : Nat, k ≤ l0 ∧ j = .int .i64 k ∧ v = .slice (some ⟨w2.heap.size, 0, none⟩) k (l0 + l1) ∧ Row wr 5 .u8 w2.heap.size k (l0 + l1) (Pl.pads A k) ∧ Row wr 5 .u8 w.heap.size l1 l1 W ∧ Below w.heap.size w wr) (fun _ j _ => l0 - (intOf j).toNat)
  case atStart => exact ⟨0, Nat.zero_le _, rfl, rfl, row3, row23, bel3⟩
  case round =>
    obtain ⟨k, hk, rfl, rfl, row, rowW, bel⟩ := hrel
    clear row3 bel3 row23 bel2
    by_cases hlt : k < l0
    · obtain ⟨b, off, rfl, hb, hc⟩ := hp.place (by omega)
      have hcell : wr.cell? ⟨b, off + k, none⟩ = some (.int .u8 (A.getD k 0)) := (bel.cell hb).trans (hc k hlt)
      clear hc
      have HE : Hid (Pl.pads A (k + 1) = Pl.pads A k ++ [Pl.blankOf (A.getD k 0)]) := Pl.pads_succ A k (by rw [hp.len]; exact hlt)
      have hx0 := (HB.out k).1
      have hx1 := (HB.out k).2
      obtain ⟨x, hx⟩ : ∃ x, x = A.getD k 0 := ⟨_, rfl⟩
      rw [← hx] at hcell HE hx0 hx1
      clear hx
      go_wp2_with (first
        | (go_at_call 13; refine (zzBlankOf_any x _ hx0 hx1).mono ?_; rintro e w' ⟨rfl, rfl⟩)
        | (at_builtin; refine wpList_rowApp elem5' rfl (.tmp 58) (.tmp 64) rfl w2.heap.size k (l0 + l1) _ rfl row 1 [Pl.blankOf x] 5 rfl rfl (by omega) ?_; intro w4 row4 gr4))
      go_roundw
      case rel => exact ⟨k + 1, by omega, by go_num, rfl, by rw [HE.out]; exact row4, rowW.kept gr4 (by omega), bel.grown gr4 bel.size (fun k h => by cases h; omega)⟩
      case measure => simp [intOf]; omega
    · obtain rfl : k = l0 := by omega
      go_wp2_with (at_builtin; refine wpList_rowAppSrc elem5' rfl (.tmp 66) (.tmp 67) rfl w2.heap.size k (k + l1) _ rfl row _ l1 l1 W rfl rowW.src (by omega) ?_; intro w5 row5 gr5; have bel5 : Below w.heap.size w w5 := bel.grown gr5 bel.size (fun k h => by cases h; omega); have rowW5 := rowW.kept gr5 (by omega))
      refine (ZZskipSpace_to (Pl.G (Pl.pads A k ++ W)) w2.heap.size 0 _ _ _ _ (by omega) (by omega) (by exact row5.cells) _ H2.out).mono ?_
      rintro e w' ⟨rfl, rfl⟩
      go_wp2_with fail
      refine (ZZskipSpace_to (Pl.G W) w.heap.size 0 _ _ 0 _ (by omega) (by omega) (by exact rowW5.cells) _ H1.out).mono ?_
      rintro e w' ⟨rfl, rfl⟩
      go_wp2_with fail
      go_ret
      exact ⟨rfl, bel5⟩

set_option maxHeartbeats 2000000 in
theorem sk2_nil (a0 : Option Addr) (l0 c0 : Nat) (A : List Int) (i : Nat) (w : World) (hp : Src w .u8 a0 l0 c0 A) (hby : ∀ j, 0 ≤ A.getD j 0 ∧ A.getD j 0 ≤ 255) (h : l0 ≤ 1048576) (hi : i ≤ l0) :
    Calls Try.prog 4 #[.slice a0 l0 c0, .slice none 0 0, .int .i64 (i : Int)] w fun e w' => e = .returned (.bool true) ∧ Below w.heap.size w w' := by
  have hq := neq22
  obtain ⟨r, hr, r1, r2⟩ := sk2_facts A [] l0 0 i hp.len rfl hi
  have H1 : Hid (((Pl.SK (Pl.G []) 0 ((0 : Int).toNat) : Nat) : Int) = r) := r1
  have H2 : Hid (((Pl.SK (Pl.G (Pl.pads A l0 ++ [])) (l0 + 0) ((i : Int).toNat) : Nat) : Int) = (l0 : Int) + r) := r2
  have HB : Hid (∀ j, 0 ≤ A.getD j 0 ∧ A.getD j 0 ≤ 255) := hby
  clear r1 r2 hby
  have d1 : decide ((1048576 : Int) < (l0 : Int)) = false := by simp; omega
  have d2 : decide ((1048576 : Int) < (0 : Int)) = false := by simp; try omega
  have d3 : decide ((1048576 : Int) < (l0 : Int) + (0 : Int)) = false := by simp; omega
  have d4 : decide ((i : Int) < 0) = false := by simp
  have d5 : decide ((l0 : Int) < (i : Int)) = false := by simp; omega
  have d6 : decide (l0 < i) = false := by simp; omega
  go_enter Try.func4, Try.ntmps4
  go_wp2_with (first
    | (go_at_call 12; refine (bytes12_yes _ _ _ _ _ _ _ _ (by omega)).mono ?_; rintro e w' ⟨rfl, rfl⟩)
    | (at_make; refine wpList_rowMake elem5' rfl (.const (.int .i64 0)) (.tmp 50) rfl _ _ _ l0 rfl rfl (by omega) (by omega) ?_; intro w3 row3 gr3; have bel3 : Below w.heap.size w w3 := (Below.refl _ _).grown gr3 (Nat.le_refl _) (fun k h => by cases h)))
  clear gr3
  go_loopw [8, 9] (fun v j wr => ∃ k : Nat, k ≤ l0 ∧ j = .int .i64 k ∧ v = .slice (some ⟨w.heap.size, 0, none⟩) k l0 ∧ Row wr 5 .u8 w.heap.size k l0 (Pl.pads A k) ∧ Below w.heap.size w wr) (fun _ j _ => l0 - (intOf j).toNat)
  case atStart => exact ⟨0, Nat.zero_le _, rfl, rfl, row3, bel3⟩
  case round =>
    obtain ⟨k, hk, rfl, rfl, row, bel⟩ := hrel
    clear row3 bel3
    by_cases hlt : k < l0
    · obtain ⟨b, off, rfl, hb, hc⟩ := hp.place (by omega)
      have hcell : wr.cell? ⟨b, off + k, none⟩ = some (.int .u8 (A.getD k 0)) := (bel.cell hb).trans (hc k hlt)
      clear hc
      have HE : Hid (Pl.pads A (k + 1) = Pl.pads A k ++ [Pl.blankOf (A.getD k 0)]) := Pl.pads_succ A k (by rw [hp.len]; exact hlt)
      have hx0 := (HB.out k).1
      have hx1 := (HB.out k).2
      obtain ⟨x, hx⟩ : ∃ x, x = A.getD k 0 := ⟨_, rfl⟩
      rw [← hx] at hcell HE hx0 hx1
      clear hx
      go_wp2_with (first
        | (go_at_call 13; refine (zzBlankOf_any x _ hx0 hx1).mono ?_; rintro e w' ⟨rfl, rfl⟩)
        | (at_builtin; refine wpList_rowApp elem5' rfl (.tmp 58) (.tmp 64) rfl w.heap.size k l0 _ rfl row 1 [Pl.blankOf x] 5 rfl rfl (by omega) ?_; intro w4 row4 gr4))
      go_roundw
      case rel => exact ⟨k + 1, by omega, by go_num, rfl, by rw [HE.out]; exact row4, bel.grown gr4 bel.size (fun k h => by cases h; exact Nat.le_refl _)⟩
      case measure => simp [intOf]; omega
    · obtain rfl : k = l0 := by omega
      go_wp2_with (at_builtin; refine wpList_rowAppSrc elem5' rfl (.tmp 66) (.tmp 67) rfl w.heap.size k k _ rfl row none 0 0 [] rfl ⟨rfl, fun _ => ⟨rfl, rfl⟩, fun ad had => by cases had⟩ (by omega) ?_; intro w5 row5 gr5; have bel5 : Below w.heap.size w w5 := bel.grown gr5 bel.size (fun k h => by cases h; exact Nat.le_refl _))
      have row5' : Row w5 5 .u8 w.heap.size (k + 0) k (Pl.pads A k ++ []) := row5
      refine (ZZskipSpace_to (Pl.G (Pl.pads A k ++ [])) w.heap.size 0 _ _ _ _ (by omega) (by omega) (by exact row5'.cells) _ H2.out).mono ?_
      rintro e w' ⟨rfl, rfl⟩
      go_wp2_with fail
      refine (ZZskipSpace_empty none 0 0 _ (by omega)).mono ?_
      rintro e w' ⟨rfl, rfl⟩
      have hr0 : r = 0 := by omega
      subst hr0
      go_wp2_with fail
      go_ret
      exact ⟨rfl, bel5⟩

end Go.Proofs.Qxb6619197a
