/-
  THE WALK OF 'FnValueEndMatchesAutomaton'.
-/
import Derived.Test.Qxb6619197aCopy
import Derived.Test.Qxb6619197aValModel
namespace Go.Proofs.Qxb6619197a
open Go.RowKit

theorem Try.infoV : (Try.prog.info? 5).map (fun i => (i.zero, i.size, i.bytes)) = some (some (.int .u8 0), 1, 1) := by kernel_rfl
theorem elemV : Elem Try.prog 22 5 .u8 := by
  obtain ⟨i, h, a, b, c⟩ := info_parts Try.infoV
  exact ⟨Try.underlying22, i, h, a, b, by omega⟩

theorem bytes18_yes (a0 : Option Addr) (l0 c0 : Nat) (i : Int) (w : World) (h : l0 ≤ 1048576) :
    Calls Try.prog 18 #[.slice a0 l0 c0, .int .i64 i] w fun e w' => e = .returned (.bool true) ∧ w = w' := by
  go_enter Try.func18, Try.ntmps18
  go_wp2
  go_ret
  exact ⟨rfl, rfl⟩
theorem bytes18_no (a0 : Option Addr) (l0 c0 : Nat) (i : Int) (w : World) (h : 1048576 < l0) :
    Calls Try.prog 18 #[.slice a0 l0 c0, .int .i64 i] w fun e w' => e = .returned (.bool false) ∧ w = w' := by
  go_enter Try.func18, Try.ntmps18
  go_wp2
  go_ret
  exact ⟨rfl, rfl⟩
theorem val_no (a0 : Option Addr) (l0 c0 : Nat) (i : Int) (w : World) (h : 1048576 < l0) :
    Calls Try.prog 7 #[.slice a0 l0 c0, .int .i64 i] w fun e w' => e = .returned (.bool true) ∧ Below w.heap.size w w' := by
  go_enter Try.func7, Try.ntmps7
  go_wp2_with (go_at_call 18; refine (bytes18_no _ _ _ _ _ h).mono ?_; rintro e w' ⟨rfl, rfl⟩)
  go_ret
  exact ⟨rfl, Below.refl _ _⟩
theorem val_out (a0 : Option Addr) (l0 c0 : Nat) (i : Int) (w : World) (h : l0 ≤ 1048576) (hi : i < 0 ∨ (l0 : Int) ≤ i) :
    Calls Try.prog 7 #[.slice a0 l0 c0, .int .i64 i] w fun e w' => e = .returned (.bool true) ∧ Below w.heap.size w w' := by
  rcases hi with hi | hi
  · go_enter Try.func7, Try.ntmps7
    go_wp2_with (go_at_call 18; refine (bytes18_yes _ _ _ _ _ h).mono ?_; rintro e w' ⟨rfl, rfl⟩)
    go_ret
    exact ⟨rfl, Below.refl _ _⟩
  · have hi' : 0 ≤ i := by omega
    go_enter Try.func7, Try.ntmps7
    go_wp2_with (go_at_call 18; refine (bytes18_yes _ _ _ _ _ h).mono ?_; rintro e w' ⟨rfl, rfl⟩)
    go_ret
    exact ⟨rfl, Below.refl _ _⟩

set_option maxHeartbeats 1000000 in
theorem val_walk (ad : Addr) (l c0 : Nat) (V : List Int) (i : Nat) (w : World) (hv : Src w .u8 (some ad) l c0 V) (h : l ≤ 1048576) (hi : i < l) :
    Calls Try.prog 7 #[.slice (some ad) l c0, .int .i64 (i : Int)] w fun e w' => e = .returned (.bool true) ∧ Below w.heap.size w w' := by
  have hq := neq22
  obtain ⟨m, hm⟩ : ∃ m : Nat, ((Pl.VE (Pl.G V) l ((i : Int).toNat) : Nat) : Int) = m := ⟨_, rfl⟩
  have H1 : Hid (((Pl.VE (Pl.G V) l ((i : Int).toNat) : Nat) : Int) = m) := hm
  clear hm
  go_enter Try.func7, Try.ntmps7
  go_wp2_with (first
    | (go_at_call 18; refine (bytes18_yes _ _ _ _ _ h).mono ?_; rintro e w' ⟨rfl, rfl⟩)
    | (at_make; refine wpList_rowFull elemV rfl _ _ rfl _ _ _ _ l rfl rfl (by omega) (by omega) (by omega) ?_; intro w1 row1 gr1; have bel1 : Below w.heap.size w w1 := (Below.refl _ _).grown gr1 (Nat.le_refl _) (fun k h => by cases h))
    | (with_reducible show wpList _ _ _ ({ dst := _, op := Op.call { callee := Callee.builtin Builtin.copy, args := _, argTypes := _ }, type := _, pos := _, after := _, guard := _ } :: _) _ _; refine wpList_rowCopy elemV rfl (.tmp 26) (.tmp 27) rfl w.heap.size l _ rfl row1 _ _ V rfl (hv.later bel1) ?_; intro w2 row2 gr2; have bel2 : Below w.heap.size w w2 := bel1.grown gr2 bel1.size (fun k h => by cases h; exact Nat.le_refl _))
    | (go_at_call 19; refine (ZZvalueEnd_to (Pl.G V) w.heap.size 0 l l _ _ (by omega) (by omega) (by omega) (by exact row2.cells) _ H1.out).mono ?_; rintro e w' ⟨rfl, rfl⟩)
    | (go_at_call 20; refine (valueEndModel_to (Pl.G V) w.heap.size 0 l l _ _ (by omega) (by omega) (by omega) (by exact row2.cells) _ H1.out).mono ?_; rintro e w' ⟨rfl, rfl⟩))
  go_ret
  exact ⟨by simp, bel2⟩

end Go.Proofs.Qxb6619197a
