/-
  THE WALK OF 'FnSkipSpaceIsFirstNonBlank'.
-/
import Derived.Test.Qxb6619197aCopy
namespace Go.Proofs.Qxb6619197a
open Go.RowKit

theorem Try.info5' : (Try.prog.info? 5).map (fun i => (i.zero, i.size, i.bytes)) = some (some (.int .u8 0), 1, 1) := by kernel_rfl
theorem elem5' : Elem Try.prog 22 5 .u8 := by
  obtain ⟨i, h, a, b, c⟩ := info_parts Try.info5'
  exact ⟨Try.underlying22, i, h, a, b, by omega⟩

theorem ZZskipSpace_to (g : Nat → Int) (b off n cap : Nat) (i : Int) (w : World) (hn : n ≤ 1099511627776) (h0 : 0 ≤ i)
    (hc : ∀ j, j < n → w.cell? ⟨b, off + j, none⟩ = some (.int .u8 (g j))) (r : Int) (hr : ((Pl.SK g n i.toNat : Nat) : Int) = r) :
    Calls Try.prog 10 #[.slice (some ⟨b, off, none⟩) n cap, .int .i64 i] w fun e w' => e = .returned (.int .i64 r) ∧ w = w' := by
  subst hr
  exact ZZskipSpace_any g b off n cap i w hn h0 hc

theorem bytes9_yes (a0 : Option Addr) (l0 c0 : Nat) (i k : Int) (w : World) (h : l0 ≤ 1048576) :
    Calls Try.prog 9 #[.slice a0 l0 c0, .int .i64 i, .int .i64 k] w fun e w' => e = .returned (.bool true) ∧ w = w' := by
  go_enter Try.func9, Try.ntmps9
  go_wp2
  go_ret
  exact ⟨rfl, rfl⟩
theorem bytes9_no (a0 : Option Addr) (l0 c0 : Nat) (i k : Int) (w : World) (h : 1048576 < l0) :
    Calls Try.prog 9 #[.slice a0 l0 c0, .int .i64 i, .int .i64 k] w fun e w' => e = .returned (.bool false) ∧ w = w' := by
  go_enter Try.func9, Try.ntmps9
  go_wp2
  go_ret
  exact ⟨rfl, rfl⟩

theorem sk1_no (a0 : Option Addr) (l0 c0 : Nat) (i k : Int) (w : World) (h : 1048576 < l0) :
    Calls Try.prog 3 #[.slice a0 l0 c0, .int .i64 i, .int .i64 k] w fun e w' => e = .returned (.bool true) ∧ Below w.heap.size w w' := by
  go_enter Try.func3, Try.ntmps3
  go_wp2_with (go_at_call 9; refine (bytes9_no _ _ _ _ _ _ h).mono ?_; rintro e w' ⟨rfl, rfl⟩)
  go_ret
  exact ⟨rfl, Below.refl _ _⟩
theorem sk1_neg (a0 : Option Addr) (l0 c0 : Nat) (i k : Int) (w : World) (h : l0 ≤ 1048576) (hi : i < 0) :
    Calls Try.prog 3 #[.slice a0 l0 c0, .int .i64 i, .int .i64 k] w fun e w' => e = .returned (.bool true) ∧ Below w.heap.size w w' := by
  go_enter Try.func3, Try.ntmps3
  go_wp2_with (go_at_call 9; refine (bytes9_yes _ _ _ _ _ _ h).mono ?_; rintro e w' ⟨rfl, rfl⟩)
  go_ret
  exact ⟨rfl, Below.refl _ _⟩
/-- v is nil. -/
theorem sk1_nil (i k : Int) (w : World) (hi : 0 ≤ i) :
    Calls Try.prog 3 #[.slice none 0 0, .int .i64 i, .int .i64 k] w fun e w' => e = .returned (.bool true) ∧ Below w.heap.size w w' := by
  have hq := neq22
  by_cases hk : i ≤ k ∧ k ≤ i
  · obtain rfl : k = i := by omega
    go_enter Try.func3, Try.ntmps3
    go_wp2_with (first | (go_at_call 9; refine (bytes9_yes _ _ _ _ _ _ (by omega)).mono ?_; rintro e w' ⟨rfl, rfl⟩) | (go_at_call 10; refine (ZZskipSpace_empty none 0 k _ hi).mono ?_; rintro e w' ⟨rfl, rfl⟩))
    go_ret
    exact ⟨rfl, Below.refl _ _⟩
  · by_cases h1 : i ≤ k
    · have h2 : i < k := by omega
      go_enter Try.func3, Try.ntmps3
      go_wp2_with (first | (go_at_call 9; refine (bytes9_yes _ _ _ _ _ _ (by omega)).mono ?_; rintro e w' ⟨rfl, rfl⟩) | (go_at_call 10; refine (ZZskipSpace_empty none 0 i _ hi).mono ?_; rintro e w' ⟨rfl, rfl⟩))
      go_ret
      exact ⟨rfl, Below.refl _ _⟩
    · have h2 : k < i := by omega
      go_enter Try.func3, Try.ntmps3
      go_wp2_with (first | (go_at_call 9; refine (bytes9_yes _ _ _ _ _ _ (by omega)).mono ?_; rintro e w' ⟨rfl, rfl⟩) | (go_at_call 10; refine (ZZskipSpace_empty none 0 i _ hi).mono ?_; rintro e w' ⟨rfl, rfl⟩))
      go_ret
      exact ⟨rfl, Below.refl _ _⟩

set_option maxHeartbeats 1000000 in
/-- i lies at the end of v or behind it. -/
theorem sk1_far (ad : Addr) (l c : Nat) (V : List Int) (i k : Int) (w : World) (hv : Src w .u8 (some ad) l c V) (h : l ≤ 1048576) (hi : (l : Int) ≤ i) :
    Calls Try.prog 3 #[.slice (some ad) l c, .int .i64 i, .int .i64 k] w fun e w' => e = .returned (.bool true) ∧ Below w.heap.size w w' := by
  have hq := neq22
  have hr : Hid (((Pl.SK (Pl.G V) l i.toNat : Nat) : Int) = i) := by
    show _ = _
    rw [Pl.SK_out (by omega)]
    omega
  rcases (show k = i ∨ k < i ∨ i < k from by omega) with rfl | hk | hk
  all_goals
    go_enter Try.func3, Try.ntmps3
    go_wp2_with (first
      | (go_at_call 9; refine (bytes9_yes _ _ _ _ _ _ h).mono ?_; rintro e w' ⟨rfl, rfl⟩)
      | (at_make; refine wpList_rowFull elem5' rfl _ _ rfl _ _ _ _ l rfl rfl (by omega) (by omega) (by omega) ?_; intro w1 row1 gr1; have bel1 : Below w.heap.size w w1 := (Below.refl _ _).grown gr1 (Nat.le_refl _) (fun k h => by cases h))
      | (with_reducible show wpList _ _ _ ({ dst := _, op := Op.call { callee := Callee.builtin Builtin.copy, args := _, argTypes := _ }, type := _, pos := _, after := _, guard := _ } :: _) _ _; refine wpList_rowCopy elem5' rfl (.tmp 26) (.tmp 27) rfl w.heap.size l _ rfl row1 _ _ V rfl (hv.later bel1) ?_; intro w2 row2 gr2; have bel2 : Below w.heap.size w w2 := bel1.grown gr2 bel1.size (fun k h => by cases h; exact Nat.le_refl _))
      | (go_at_call 10; refine (ZZskipSpace_to (Pl.G V) w.heap.size 0 l l _ _ (by omega) (by omega) (by exact row2.cells) _ hr.out).mono ?_; rintro e w' ⟨rfl, rfl⟩))
    go_ret
    exact ⟨rfl, bel2⟩

theorem sk_facts (g : Nat → Int) (l i : Nat) (hi : i < l) : ∃ R : Nat, i ≤ R ∧ R ≤ l ∧ ((Pl.SK g l ((i : Int).toNat) : Nat) : Int) = R ∧ ((Pl.SK g l ((R : Int).toNat) : Nat) : Int) = R ∧
    (∀ k : Int, (i : Int) ≤ k → k ≤ R → ((Pl.SK g l k.toNat : Nat) : Int) = R) ∧ (∀ j, i ≤ j → j < R → Pl.blank (g j) = true) ∧ (R < l → Pl.blank (g R) = false) := by
  obtain ⟨h1, h2, h3, h4⟩ := Pl.SK_spec g l (l - i) i (by omega)
  have h5 := h2 (by omega)
  have e : Pl.SK g l (Pl.SK g l i) = Pl.SK g l i := by
    by_cases hR : Pl.SK g l i < l
    · exact Pl.SK_stop hR (h4 hR)
    · exact Pl.SK_out (by omega)
  refine ⟨Pl.SK g l i, h1, h5, by rw [Int.toNat_natCast], by rw [Int.toNat_natCast, e], ?_, h3, h4⟩
  intro k hk1 hk2
  obtain ⟨k, rfl⟩ := Int.eq_ofNat_of_zero_le (show 0 ≤ k by omega)
  rw [Int.toNat_natCast, Pl.SK_over (Pl.SK g l i - k) k (Pl.SK g l i) (by omega) h5 (fun j a b => h3 j (by omega) b), e]

set_option maxHeartbeats 2000000 in
/-- i lies in v. -/
theorem sk1_near (ad : Addr) (l c : Nat) (V : List Int) (i : Nat) (k : Int) (w : World) (hv : Src w .u8 (some ad) l c V) (h : l ≤ 1048576) (hi : i < l) :
    Calls Try.prog 3 #[.slice (some ad) l c, .int .i64 (i : Int), .int .i64 k] w fun e w' => e = .returned (.bool true) ∧ Below w.heap.size w w' := by
  have hq := neq22
  obtain ⟨R, hR1, hR2, r1, r2, r3, hb, hst⟩ := sk_facts (Pl.G V) l i hi
  have H1 : Hid (((Pl.SK (Pl.G V) l ((i : Int).toNat) : Nat) : Int) = R) := r1
  have H2 : Hid (((Pl.SK (Pl.G V) l ((R : Int).toNat) : Nat) : Int) = R) := r2
  have H3 : Hid (∀ k : Int, (i : Int) ≤ k → k ≤ R → ((Pl.SK (Pl.G V) l k.toNat : Nat) : Int) = R) := r3
  have H4 : Hid (∀ j, i ≤ j → j < R → Pl.blank (Pl.G V j) = true) := hb
  have H5 : Hid (R < l → Pl.blank (Pl.G V R) = false) := hst
  clear r1 r2 r3 hb hst
  have d1 : decide ((1048576 : Int) < (l : Int)) = false := by simp; omega
  have d2 : decide ((i : Int) < 0) = false := by simp
  have d3 : decide ((R : Int) < (i : Int)) = false := by simp; omega
  have d4 : decide ((l : Int) < (R : Int)) = false := by simp; omega
  have d5 : decide (R < i) = false := by simp; omega
  have d6 : decide (l < R) = false := by simp; omega
  have d7 : decide (l ≤ i) = false := by simp; omega
  have d8 : decide ((l : Int) ≤ (i : Int)) = false := by simp; omega
  go_enter Try.func3, Try.ntmps3
  go_wp2_with (first
    | (go_at_call 9; refine (bytes9_yes _ _ _ _ _ _ h).mono ?_; rintro e w' ⟨rfl, rfl⟩)
    | (at_make; refine wpList_rowFull elem5' rfl _ _ rfl _ _ _ _ l rfl rfl (by omega) (by omega) (by omega) ?_; intro w1 row1 gr1; have bel1 : Below w.heap.size w w1 := (Below.refl _ _).grown gr1 (Nat.le_refl _) (fun k h => by cases h))
    | (with_reducible show wpList _ _ _ ({ dst := _, op := Op.call { callee := Callee.builtin Builtin.copy, args := _, argTypes := _ }, type := _, pos := _, after := _, guard := _ } :: _) _ _; refine wpList_rowCopy elem5' rfl (.tmp 26) (.tmp 27) rfl w.heap.size l _ rfl row1 _ _ V rfl (hv.later bel1) ?_; intro w2 row2 gr2; have bel2 : Below w.heap.size w w2 := bel1.grown gr2 bel1.size (fun k h => by cases h; exact Nat.le_refl _))
    | (go_at_call 10; refine (ZZskipSpace_to (Pl.G V) w.heap.size 0 l l _ _ (by omega) (by omega) (by exact row2.cells) _ H1.out).mono ?_; rintro e w' ⟨rfl, rfl⟩))
  clear hv row1 gr1 gr2 bel1 H1
  go_loop [10] (fun t => ∃ j : Nat, i ≤ j ∧ j ≤ R ∧ t = .int .i64 j) (fun t => R - (intOf t).toNat)
  case atStart => exact ⟨i, Nat.le_refl _, hR1, rfl⟩
  case round =>
    obtain ⟨j, hj1, hj2, rfl⟩ := hrel
    by_cases hlt : j < R
    · have hcell : w2.cell? ⟨w.heap.size, j, none⟩ = some (.int .u8 (Pl.G V j)) := row2.cellAt (by omega)
      have hb : Pl.blank (Pl.G V j) = true := H4.out j hj1 hlt
      go_wp2_with (go_at_call 11; refine (zzIsBlank_any _ _).mono ?_; rintro e w' ⟨rfl, rfl⟩)
      go_round
      case rel => exact ⟨j + 1, by omega, by omega, by go_num⟩
      case measure => simp [intOf]; omega
    · obtain rfl : R = j := by omega
      clear H4 hlt hj1 hj2
      rcases (show R < l ∨ l ≤ R from by omega) with hl | hl
      · have hcell : w2.cell? ⟨w.heap.size, R, none⟩ = some (.int .u8 (Pl.G V R)) := row2.cellAt hl
        have hb : Pl.blank (Pl.G V R) = false := H5.out hl
        rcases (show k < (i : Int) ∨ ((i : Int) ≤ k ∧ k ≤ (R : Int)) ∨ (R : Int) < k from by omega) with hk | hk | hk
        all_goals go_wp2_with (go_at_call 11; refine (zzIsBlank_any _ _).mono ?_; rintro e w' ⟨rfl, rfl⟩)
        · refine (ZZskipSpace_to (Pl.G V) w.heap.size 0 l l _ _ (by omega) (by omega) (by exact row2.cells) _ H2.out).mono ?_
          rintro e w' ⟨rfl, rfl⟩
          go_wp2_with fail
          go_ret
          exact ⟨rfl, bel2⟩
        · refine (ZZskipSpace_to (Pl.G V) w.heap.size 0 l l _ _ (by omega) (by omega) (by exact row2.cells) _ H2.out).mono ?_
          rintro e w' ⟨rfl, rfl⟩
          go_wp2_with fail
          refine (ZZskipSpace_to (Pl.G V) w.heap.size 0 l l _ _ (by omega) (by omega) (by exact row2.cells) _ (H3.out k hk.1 hk.2)).mono ?_
          rintro e w' ⟨rfl, rfl⟩
          go_wp2_with fail
          go_ret
          exact ⟨rfl, bel2⟩
        · refine (ZZskipSpace_to (Pl.G V) w.heap.size 0 l l _ _ (by omega) (by omega) (by exact row2.cells) _ H2.out).mono ?_
          rintro e w' ⟨rfl, rfl⟩
          go_wp2_with fail
          go_ret
          exact ⟨rfl, bel2⟩
      · rcases (show k < (i : Int) ∨ ((i : Int) ≤ k ∧ k ≤ (R : Int)) ∨ (R : Int) < k from by omega) with hk | hk | hk
        all_goals go_wp2_with fail
        · refine (ZZskipSpace_to (Pl.G V) w.heap.size 0 l l _ _ (by omega) (by omega) (by exact row2.cells) _ H2.out).mono ?_
          rintro e w' ⟨rfl, rfl⟩
          go_wp2_with fail
          go_ret
          exact ⟨rfl, bel2⟩
        · refine (ZZskipSpace_to (Pl.G V) w.heap.size 0 l l _ _ (by omega) (by omega) (by exact row2.cells) _ H2.out).mono ?_
          rintro e w' ⟨rfl, rfl⟩
          go_wp2_with fail
          refine (ZZskipSpace_to (Pl.G V) w.heap.size 0 l l _ _ (by omega) (by omega) (by exact row2.cells) _ (H3.out k hk.1 hk.2)).mono ?_
          rintro e w' ⟨rfl, rfl⟩
          go_wp2_with fail
          go_ret
          exact ⟨rfl, bel2⟩
        · refine (ZZskipSpace_to (Pl.G V) w.heap.size 0 l l _ _ (by omega) (by omega) (by exact row2.cells) _ H2.out).mono ?_
          rintro e w' ⟨rfl, rfl⟩
          go_wp2_with fail
          go_ret
          exact ⟨rfl, bel2⟩

end Go.Proofs.Qxb6619197a
