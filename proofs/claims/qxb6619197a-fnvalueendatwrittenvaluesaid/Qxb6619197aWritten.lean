/-
  THE WALK OF 'FnValueEndAtWrittenValue'.
-/
import Derived.Test.Qxb6619197aValWalk
import Derived.Test.Qxb6619197aBuildWalk
namespace Go.Proofs.Qxb6619197a
open Go.RowKit

theorem bytes21_yes (a0 a1 a2 : Option Addr) (l0 c0 l1 c1 l2 c2 : Nat) (d : Int) (w : World) (h : l0 + l1 + l2 ≤ 1048576) :
    Calls Try.prog 21 #[.slice a0 l0 c0, .slice a1 l1 c1, .int .u8 d, .slice a2 l2 c2] w fun e w' => e = .returned (.bool true) ∧ w = w' := by
  go_enter Try.func21, Try.ntmps21
  go_wp2
  go_ret
  exact ⟨rfl, rfl⟩
theorem bytes21_no (a0 a1 a2 : Option Addr) (l0 c0 l1 c1 l2 c2 : Nat) (d : Int) (w : World) (m0 : l0 ≤ maxLen) (m1 : l1 ≤ maxLen) (m2 : l2 ≤ maxLen) (h : 1048576 < l0 + l1 + l2) :
    Calls Try.prog 21 #[.slice a0 l0 c0, .slice a1 l1 c1, .int .u8 d, .slice a2 l2 c2] w fun e w' => e = .returned (.bool false) ∧ w = w' := by
  unfold maxLen at m0 m1 m2
  go_enter Try.func21, Try.ntmps21
  go_wp2
  all_goals
    go_ret
    exact ⟨rfl, rfl⟩
theorem wv_no (a0 a1 a2 : Option Addr) (l0 c0 l1 c1 l2 c2 : Nat) (d : Int) (w : World) (m0 : l0 ≤ maxLen) (m1 : l1 ≤ maxLen) (m2 : l2 ≤ maxLen) (h : 1048576 < l0 + l1 + l2) :
    Calls Try.prog 8 #[.slice a0 l0 c0, .slice a1 l1 c1, .int .u8 d, .slice a2 l2 c2] w fun e w' => e = .returned (.bool true) ∧ Below w.heap.size w w' := by
  go_enter Try.func8, Try.ntmps8
  go_wp2_with (go_at_call 21; refine (bytes21_no _ _ _ _ _ _ _ _ _ _ _ m0 m1 m2 h).mono ?_; rintro e w' ⟨rfl, rfl⟩)
  go_ret
  exact ⟨rfl, Below.refl _ _⟩
theorem wv_long (a0 a1 a2 : Option Addr) (l0 c0 l1 c1 l2 c2 : Nat) (d : Int) (w : World) (h : l0 + l1 + l2 ≤ 1048576) (hl : 65536 < l1) :
    Calls Try.prog 8 #[.slice a0 l0 c0, .slice a1 l1 c1, .int .u8 d, .slice a2 l2 c2] w fun e w' => e = .returned (.bool true) ∧ Below w.heap.size w w' := by
  go_enter Try.func8, Try.ntmps8
  go_wp2_with (go_at_call 21; refine (bytes21_yes _ _ _ _ _ _ _ _ _ _ _ h).mono ?_; rintro e w' ⟨rfl, rfl⟩)
  go_ret
  exact ⟨rfl, Below.refl _ _⟩

set_option maxHeartbeats 2000000 in
theorem wv_walk (a0 : Option Addr) (l0 c0 : Nat) (A : List Int) (a1 : Option Addr) (l1 c1 : Nat) (S : List Int) (dl : Int) (a2 : Option Addr) (l2 c2 : Nat) (T : List Int) (w : World)
    (hp : Src w .u8 a0 l0 c0 A) (hs : Src w .u8 a1 l1 c1 S) (ht : Src w .u8 a2 l2 c2 T) (hby : ∀ j, 0 ≤ S.getD j 0 ∧ S.getD j 0 ≤ 255) (h : l0 + l1 + l2 ≤ 1048576) (hl : l1 ≤ 65536) :
    Calls Try.prog 8 #[.slice a0 l0 c0, .slice a1 l1 c1, .int .u8 dl, .slice a2 l2 c2] w fun e w' => e = .returned (.bool true) ∧ Below w.heap.size w w' := by
  have HB : Hid (∀ j, 0 ≤ S.getD j 0 ∧ S.getD j 0 ≤ 255) := hby
  clear hby
  go_enter Try.func8, Try.ntmps8
  go_wp2_with (go_at_call 21; refine (bytes21_yes _ _ _ _ _ _ _ _ _ _ _ h).mono ?_; rintro e w' ⟨rfl, rfl⟩)
  refine (build_any _ _ _ _ _ hs HB.out hl).mono ?_
  rintro e w1 ⟨n, L, rfl, hn, rowL, hD, bel1⟩
  have HD : Hid (Pl.Done L) := hD
  clear hD hs
  go_wp2_with fail
  refine (zzDelimOf_any _ _).mono ?_
  rintro e w' ⟨x, rfl, hx, rfl⟩
  have HX : Hid (Pl.stop x = true) := hx
  clear hx
  have lt1 : w.heap.size < w1.heap.size := rowL.lt
  go_wp2_with (first
    | (at_make; refine wpList_rowMake elemB rfl (.const (.int .i64 0)) (.tmp 51) rfl _ _ _ (l0 + n + 1 + l2) rfl rfl (by omega) (by omega) ?_; intro w2 row2 gr2; have bel2 : Below w.heap.size w w2 := bel1.grown gr2 bel1.size (fun k h => by cases h); have rowL2 := rowL.kept0 gr2)
    | (at_builtin; refine wpList_rowAppSrc elemB rfl (.tmp 53) (.tmp 54) rfl w1.heap.size 0 (l0 + n + 1 + l2) [] rfl row2 _ l0 c0 A rfl (hp.later bel2) (by omega) ?_; intro w3 row3 gr3; simp only [Nat.zero_add, List.nil_append] at row3; have bel3 : Below w.heap.size w w3 := bel2.grown gr3 bel2.size (fun k h => by cases h; omega); have rowL3 := rowL2.kept gr3 (by omega))
    | (at_builtin; refine wpList_rowAppSrc elemB rfl (.tmp 56) (.tmp 57) rfl w1.heap.size l0 (l0 + n + 1 + l2) A rfl row3 _ n (16 * l1 + 4) L rfl rowL3.src (by omega) ?_; intro w4 row4 gr4; have bel4 : Below w.heap.size w w4 := bel3.grown gr4 bel3.size (fun k h => by cases h; omega); have rowL4 := rowL3.kept gr4 (by omega))
    | (at_builtin; refine wpList_rowApp elemB rfl (.tmp 59) (.tmp 61) rfl w1.heap.size (l0 + n) (l0 + n + 1 + l2) (A ++ L) rfl row4 1 [x] 5 rfl rfl (by omega) ?_; intro w5 row5 gr5; have bel5 : Below w.heap.size w w5 := bel4.grown gr5 bel4.size (fun k h => by cases h; omega); have rowL5 := rowL4.kept gr5 (by omega))
    | (at_builtin; refine wpList_rowAppSrc elemB rfl (.tmp 63) (.tmp 64) rfl w1.heap.size (l0 + n + 1) (l0 + n + 1 + l2) (A ++ L ++ [x]) rfl row5 _ l2 c2 T rfl (ht.later bel5) (by omega) ?_; intro w6 row6 gr6; have bel6 : Below w.heap.size w w6 := bel5.grown gr6 bel5.size (fun k h => by cases h; omega); have rowL6 := rowL5.kept gr6 (by omega); have lt6 : w1.heap.size < w6.heap.size := row6.lt)
    | (at_make; refine wpList_rowMake elemB rfl (.const (.int .i64 0)) (.tmp 68) rfl _ _ _ (n + 1) rfl rfl (by omega) (by omega) ?_; intro w7 row7 gr7; have bel7 : Below w.heap.size w w7 := bel6.grown gr7 bel6.size (fun k h => by cases h); have rowL7 := rowL6.kept0 gr7; have rowW7 := row6.kept0 gr7)
    | (at_builtin; refine wpList_rowAppSrc elemB rfl (.tmp 70) (.tmp 71) rfl w6.heap.size 0 (n + 1) [] rfl row7 _ n (16 * l1 + 4) L rfl rowL7.src (by omega) ?_; intro w8 row8 gr8; simp only [Nat.zero_add, List.nil_append] at row8; have bel8 : Below w.heap.size w w8 := bel7.grown gr8 bel7.size (fun k h => by cases h; omega); have rowW8 := rowW7.kept gr8 (by omega))
    | (at_builtin; refine wpList_rowApp elemB rfl (.tmp 73) (.tmp 75) rfl w6.heap.size n (n + 1) L rfl row8 1 [x] 5 rfl rfl (by omega) ?_; intro w9 row9 gr9; have bel9 : Below w.heap.size w w9 := bel8.grown gr9 bel8.size (fun k h => by cases h; omega); have rowW9 := rowW8.kept gr9 (by omega)))
  have lA := hp.len
  have lT := ht.len
  have lL := rowL.len
  have hr1 : Hid (((Pl.VE (Pl.G (A ++ L ++ [x] ++ T)) (l0 + n + 1 + l2) ((l0 : Int).toNat) : Nat) : Int) = (l0 : Int) + (n : Int)) := by
    have e := HD.out A x T HX.out
    have e1 : A ++ L ++ x :: T = A ++ L ++ [x] ++ T := by simp
    rw [e1, show (A ++ L ++ [x] ++ T).length = l0 + n + 1 + l2 from by simp; omega, lA, lL] at e
    show _ = _
    rw [Int.toNat_natCast, e]
    omega
  have hr2 : Hid (((Pl.VE (Pl.G (L ++ [x])) (n + 1) ((0 : Int).toNat) : Nat) : Int) = (n : Int)) := by
    have e := HD.out [] x [] HX.out
    rw [List.nil_append, show (L ++ [x]).length = n + 1 from by simp; omega, lL] at e
    show _ = _
    simp only [List.length_nil, Nat.zero_add] at e
    simp [e]
  clear lA lT lL
  refine (ZZvalueEnd_to (Pl.G (A ++ L ++ [x] ++ T)) w1.heap.size 0 _ _ (l0 : Int) _ (by omega) (by omega) (by omega) (by exact rowW9.cells) _ hr1.out).mono ?_
  rintro e w' ⟨rfl, rfl⟩
  go_wp2_with fail
  refine (ZZvalueEnd_to (Pl.G (L ++ [x])) w6.heap.size 0 _ _ 0 _ (by omega) (by omega) (by omega) (by exact row9.cells) _ hr2.out).mono ?_
  rintro e w' ⟨rfl, rfl⟩
  go_wp2_with fail
  go_ret
  exact ⟨rfl, bel9⟩

end Go.Proofs.Qxb6619197a
