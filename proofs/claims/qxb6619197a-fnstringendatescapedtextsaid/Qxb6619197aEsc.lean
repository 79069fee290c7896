/-
  THE WALK OF 'FnStringEndAtEscapedText'.
-/
import Derived.Test.Qxb6619197aReads
import Derived.Test.Qxb6619197aOwn
namespace Go.Proofs.Qxb6619197a
open Go.RowKit

theorem Try.info5 : (Try.prog.info? 5).map (fun i => (i.zero, i.size, i.bytes)) = some (some (.int .u8 0), 1, 1) := by kernel_rfl
theorem elem5 : Elem Try.prog 22 5 .u8 := by
  obtain ⟨i, h, a, b, c⟩ := info_parts Try.info5
  exact ⟨Try.underlying22, i, h, a, b, by omega⟩

theorem bytes17_yes (a0 a1 a2 : Option Addr) (l0 c0 l1 c1 l2 c2 : Nat) (w : World) (h : l0 + l1 + l2 ≤ 1048576) :
    Calls Try.prog 17 #[.slice a0 l0 c0, .slice a1 l1 c1, .slice a2 l2 c2] w fun e w' => e = .returned (.bool true) ∧ w = w' := by
  go_enter Try.func17, Try.ntmps17
  go_wp2
  go_ret
  exact ⟨rfl, rfl⟩

theorem bytes17_no (a0 a1 a2 : Option Addr) (l0 c0 l1 c1 l2 c2 : Nat) (w : World) (m0 : l0 ≤ maxLen) (m1 : l1 ≤ maxLen) (m2 : l2 ≤ maxLen) (h : 1048576 < l0 + l1 + l2) :
    Calls Try.prog 17 #[.slice a0 l0 c0, .slice a1 l1 c1, .slice a2 l2 c2] w fun e w' => e = .returned (.bool false) ∧ w = w' := by
  unfold maxLen at m0 m1 m2
  go_enter Try.func17, Try.ntmps17
  go_wp2
  all_goals
    go_ret
    exact ⟨rfl, rfl⟩

theorem esc_no (a0 a1 a2 : Option Addr) (l0 c0 l1 c1 l2 c2 : Nat) (w : World) (m0 : l0 ≤ maxLen) (m1 : l1 ≤ maxLen) (m2 : l2 ≤ maxLen) (h : 1048576 < l0 + l1 + l2) :
    Calls Try.prog 6 #[.slice a0 l0 c0, .slice a1 l1 c1, .slice a2 l2 c2] w fun e w' => e = .returned (.bool true) ∧ Below w.heap.size w w' := by
  go_enter Try.func6, Try.ntmps6
  go_wp2_with (go_at_call 17; refine (bytes17_no _ _ _ _ _ _ _ _ _ _ m0 m1 m2 h).mono ?_; rintro e w' ⟨rfl, rfl⟩)
  go_ret
  exact ⟨rfl, Below.refl _ _⟩

set_option maxHeartbeats 1000000 in
theorem esc_walk (a0 : Option Addr) (l0 c0 : Nat) (A : List Int) (a1 : Option Addr) (l1 c1 : Nat) (S : List Int) (a2 : Option Addr) (l2 c2 : Nat) (T : List Int) (w : World)
    (hp : Src w .u8 a0 l0 c0 A) (hs : Src w .u8 a1 l1 c1 S) (ht : Src w .u8 a2 l2 c2 T) (h : l0 + l1 + l2 ≤ 1048576) :
    Calls Try.prog 6 #[.slice a0 l0 c0, .slice a1 l1 c1, .slice a2 l2 c2] w fun e w' => e = .returned (.bool true) ∧ Below w.heap.size w w' := by
  go_enter Try.func6, Try.ntmps6
  go_wp2_with (first | (go_at_call 17; refine (bytes17_yes _ _ _ _ _ _ _ _ _ _ h).mono ?_; rintro e w' ⟨rfl, rfl⟩) | (at_make; refine wpList_rowMake elem5 rfl _ _ rfl _ _ _ (2 * l1 + 2) rfl rfl (by omega) (by omega) ?_; intro w1 row1 gr1) | (at_builtin; refine wpList_rowApp elem5 rfl _ _ rfl w.heap.size 0 (2 * l1 + 2) [] rfl row1 1 [34] 5 rfl rfl (by omega) ?_; intro w2 row2 gr2))
  have bel2 : Below w.heap.size w w2 := ((Below.refl _ _).grown gr1 (Nat.le_refl _) (fun k h => by cases h)).grown gr2 gr1.size (fun k h => by cases h; exact Nat.le_refl _)
  clear row1 gr1 gr2
  go_loopw [7, 8] (fun v j wr => ∃ k m : Nat, k ≤ l1 ∧ m ≤ 2 * k + 1 ∧ j = .int .i64 k ∧ v = .slice (some ⟨w.heap.size, 0, none⟩) m (2 * l1 + 2) ∧ Row wr 5 .u8 w.heap.size m (2 * l1 + 2) (Pl.E S k) ∧ Below w.heap.size w wr) (fun _ j _ => l1 - (intOf j).toNat)
  case atStart => exact ⟨0, 1, Nat.zero_le _, by omega, rfl, rfl, row2, bel2⟩
  case round =>
    obtain ⟨k, m, hk, hm, rfl, rfl, row, bel⟩ := hrel
    clear row2 bel2
    by_cases hlt : k < l1
    · obtain ⟨b, off, rfl, hb, hc⟩ := hs.place (by omega)
      have hcell : wr.cell? ⟨b, off + k, none⟩ = some (.int .u8 (S.getD k 0)) := (bel.cell hb).trans (hc k hlt)
      clear hc
      obtain ⟨x, hx⟩ : ∃ x, x = S.getD k 0 := ⟨_, rfl⟩
      rw [← hx] at hcell
      have HX : Hid (x = S.getD k 0) := hx
      clear hx
      have hkS : k < S.length := by rw [hs.len]; exact hlt
      have HS : Hid (k < S.length) := hkS
      clear hkS
      by_cases hsp : x = 34 ∨ x = 92
      · have HE : Hid (Pl.E S (k + 1) = Pl.E S k ++ [92] ++ [x]) := by
          have h1 := HX.out
          rw [h1] at hsp ⊢
          exact Pl.E_yes S k HS.out hsp
        rcases (show (x == 34) = true ∨ (x == 34) = false ∧ (x == 92) = true from by rcases hsp with rfl | rfl <;> simp) with e1 | ⟨e1, e2⟩
        all_goals
          clear hsp
          go_wp2_with (first | (at_builtin; refine wpList_rowApp elem5 rfl (.tmp 61) (.tmp 62) rfl w.heap.size m (2 * l1 + 2) (Pl.E S k) rfl row 1 [92] 5 rfl rfl (by omega) ?_; intro w3 row3 gr3; have hcell3 := gr3.cell hcell (by simp; omega)) | (at_builtin; refine wpList_rowApp elem5 rfl (.tmp 64) (.tmp 69) rfl w.heap.size (m + 1) (2 * l1 + 2) _ rfl row3 1 [x] 5 rfl rfl (by omega) ?_; intro w4 row4 gr4))
          go_roundw
          case rel => exact ⟨k + 1, m + 1 + 1, by omega, by omega, by go_num, rfl, by rw [HE.out]; exact row4, (bel.grown gr3 bel.size (fun k h => by cases h; exact Nat.le_refl _)).grown gr4 (Nat.le_trans bel.size gr3.size) (fun k h => by cases h; exact Nat.le_refl _)⟩
          case measure => simp [intOf]; omega
      · have HE : Hid (Pl.E S (k + 1) = Pl.E S k ++ [x]) := by
          have h1 := HX.out
          rw [h1] at hsp ⊢
          exact Pl.E_no S k HS.out (fun e => hsp (.inl e)) (fun e => hsp (.inr e))
        have e1 : (x == 34) = false := by simp; omega
        have e2 : (x == 92) = false := by simp; omega
        clear hsp
        go_wp2_with (at_builtin; refine wpList_rowApp elem5 rfl (.tmp 64) (.tmp 69) rfl w.heap.size m (2 * l1 + 2) _ rfl row 1 [x] 5 rfl rfl (by omega) ?_; intro w4 row4 gr4)
        go_roundw
        case rel => exact ⟨k + 1, m + 1, by omega, by omega, by go_num, rfl, by rw [HE.out]; exact row4, bel.grown gr4 bel.size (fun k h => by cases h; exact Nat.le_refl _)⟩
        case measure => simp [intOf]; omega
    · obtain rfl : k = l1 := by omega
      have hF : Hid (Pl.E S k ++ [34] = Pl.F S) := by
        have e : Pl.E S k ++ [34] = Pl.F S := by unfold Pl.F; rw [hs.len]
        exact e
      go_wp2_with (first
        | (at_builtin; refine wpList_rowApp elem5 rfl (.tmp 71) (.tmp 72) rfl w.heap.size m (2 * k + 2) _ rfl row 1 [34] 5 rfl rfl (by omega) ?_; intro w3 row3 gr3; rw [hF.out] at row3)
        | (at_make; refine wpList_rowMake elem5 rfl _ _ rfl _ _ _ (l0 + (m + 1) + l2) rfl rfl (by omega) (by omega) ?_; intro w4 row4 gr4; have bel3 : Below w.heap.size w w3 := bel.grown gr3 bel.size (fun k h => by cases h; exact Nat.le_refl _); have bel4 : Below w.heap.size w w4 := bel3.grown gr4 bel3.size (fun k h => by cases h); have row34 := row3.kept0 gr4)
        | (at_builtin; refine wpList_rowAppSrc elem5 rfl (.tmp 83) (.tmp 84) rfl w3.heap.size 0 (l0 + (m + 1) + l2) [] rfl row4 _ l0 c0 A rfl (hp.later bel4) (by omega) ?_; intro w5 row5 gr5; simp only [Nat.zero_add, List.nil_append] at row5; have bel5 : Below w.heap.size w w5 := bel4.grown gr5 bel4.size (fun k h => by cases h; exact bel3.size); have row35 := row34.kept gr5 (by have := row3.lt; omega))
        | (at_builtin; refine wpList_rowAppSrc elem5 rfl (.tmp 86) (.tmp 87) rfl w3.heap.size l0 (l0 + (m + 1) + l2) A rfl row5 _ (m + 1) (2 * k + 2) (Pl.F S) rfl row35.src (by omega) ?_; intro w6 row6 gr6; have bel6 : Below w.heap.size w w6 := bel5.grown gr6 bel5.size (fun k h => by cases h; exact bel3.size); have row36 := row35.kept gr6 (by have := row3.lt; omega))
        | (at_builtin; refine wpList_rowAppSrc elem5 rfl (.tmp 89) (.tmp 90) rfl w3.heap.size (l0 + (m + 1)) (l0 + (m + 1) + l2) (A ++ Pl.F S) rfl row6 _ l2 c2 T rfl (ht.later bel6) (by omega) ?_; intro w7 row7 gr7; have bel7 : Below w.heap.size w w7 := bel6.grown gr7 bel6.size (fun k h => by cases h; exact bel3.size); have row37 := row36.kept gr7 (by have := row3.lt; omega)))
      have lA := hp.len
      have lT := ht.len
      have lF := row3.len
      have hr1 : Hid (((Pl.SE (Pl.G (A ++ Pl.F S ++ T)) (l0 + (m + 1) + l2) ((l0 : Int).toNat + 1) : Nat) : Int) = (l0 : Int) + ((m : Int) + 1)) := by
        have e := Pl.SE_written A S T
        rw [show (A ++ Pl.F S ++ T).length = l0 + (m + 1) + l2 from by simp; omega, lA, lF] at e
        show _ = _
        rw [Int.toNat_natCast, e]
        omega
      have hr2 : Hid (((Pl.SE (Pl.G (Pl.F S)) (m + 1) ((0 : Int).toNat + 1) : Nat) : Int) = (m : Int) + 1) := by
        have e := Pl.SE_written [] S []
        rw [List.nil_append, List.append_nil, lF] at e
        show _ = _
        simp only [List.length_nil, Nat.zero_add] at e
        simp [e]
      clear lA lT lF
      refine (ZZstringEnd_to (Pl.G (A ++ Pl.F S ++ T)) w3.heap.size 0 _ _ (l0 : Int) _ (by omega) (by omega) (by omega) (by exact row7.cells) _ hr1.out).mono ?_
      rintro e w' ⟨rfl, rfl⟩
      go_wp2_with fail
      refine (ZZstringEnd_to (Pl.G (Pl.F S)) w.heap.size 0 _ _ 0 _ (by omega) (by omega) (by omega) (by exact row37.cells) _ hr2.out).mono ?_
      rintro e w' ⟨rfl, rfl⟩
      go_wp2_with fail
      go_ret
      exact ⟨rfl, bel7⟩

end Go.Proofs.Qxb6619197a
