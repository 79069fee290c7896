/-
  THE WALK OF 'FnStringEndMatchesBackslashRuns'.
-/
import Derived.Test.Qxb6619197aRunsWalk
namespace Go.Proofs.Qxb6619197a
open Go.RowKit

theorem bytes14_yes (a0 : Option Addr) (l0 c0 : Nat) (i k : Int) (w : World) (h : l0 ≤ 1048576) :
    Calls Try.prog 14 #[.slice a0 l0 c0, .int .i64 i, .int .i64 k] w fun e w' => e = .returned (.bool true) ∧ w = w' := by
  go_enter Try.func14, Try.ntmps14
  go_wp2
  go_ret
  exact ⟨rfl, rfl⟩
theorem bytes14_no (a0 : Option Addr) (l0 c0 : Nat) (i k : Int) (w : World) (h : 1048576 < l0) :
    Calls Try.prog 14 #[.slice a0 l0 c0, .int .i64 i, .int .i64 k] w fun e w' => e = .returned (.bool false) ∧ w = w' := by
  go_enter Try.func14, Try.ntmps14
  go_wp2
  go_ret
  exact ⟨rfl, rfl⟩
theorem run_no (a0 : Option Addr) (l0 c0 : Nat) (i k : Int) (w : World) (h : 1048576 < l0) :
    Calls Try.prog 5 #[.slice a0 l0 c0, .int .i64 i, .int .i64 k] w fun e w' => e = .returned (.bool true) ∧ Below w.heap.size w w' := by
  go_enter Try.func5, Try.ntmps5
  go_wp2_with (go_at_call 14; refine (bytes14_no _ _ _ _ _ _ h).mono ?_; rintro e w' ⟨rfl, rfl⟩)
  go_ret
  exact ⟨rfl, Below.refl _ _⟩
theorem run_out (a0 : Option Addr) (l0 c0 : Nat) (i k : Int) (w : World) (h : l0 ≤ 1048576) (hi : i < 0 ∨ (l0 : Int) ≤ i) :
    Calls Try.prog 5 #[.slice a0 l0 c0, .int .i64 i, .int .i64 k] w fun e w' => e = .returned (.bool true) ∧ Below w.heap.size w w' := by
  rcases hi with hi | hi
  · go_enter Try.func5, Try.ntmps5
    go_wp2_with (go_at_call 14; refine (bytes14_yes _ _ _ _ _ _ h).mono ?_; rintro e w' ⟨rfl, rfl⟩)
    go_ret
    exact ⟨rfl, Below.refl _ _⟩
  · have hi' : 0 ≤ i := by omega
    go_enter Try.func5, Try.ntmps5
    go_wp2_with (go_at_call 14; refine (bytes14_yes _ _ _ _ _ _ h).mono ?_; rintro e w' ⟨rfl, rfl⟩)
    go_ret
    exact ⟨rfl, Below.refl _ _⟩

theorem run_facts (g : Nat → Int) (l i : Nat) (hi : i < l) : ∃ m : Nat, i < m ∧ m ≤ l + 1 ∧ ((Pl.SE g l ((i : Int).toNat + 1) : Nat) : Int) = m ∧
    ∀ c : Nat, i < c → c ≤ l → ∃ r : Nat, ((Pl.SE g c ((i : Int).toNat + 1) : Nat) : Int) = r ∧ (m ≤ c → r = m) ∧ (c < m → c ≤ r) ∧ r ≤ c + 1 := by
  obtain ⟨h1, h2⟩ := Pl.SE_bounds (g := g) (n := l) (k := i + 1) (by omega)
  refine ⟨Pl.SE g l (i + 1), by omega, h2, by rw [Int.toNat_natCast], fun c hc1 hc2 => ⟨Pl.SE g c (i + 1), by rw [Int.toNat_natCast], ?_⟩⟩
  obtain ⟨k1, k2⟩ := Pl.SE_cut (g := g) hc2 c (i + 1) (by omega) (by omega)
  exact ⟨k1, k2, (Pl.SE_bounds (by omega)).2⟩

set_option maxHeartbeats 2000000 in
theorem run_walk (ad : Addr) (l c0 : Nat) (V : List Int) (i : Nat) (c : Int) (w : World) (hv : Src w .u8 (some ad) l c0 V) (h : l ≤ 1048576) (hi : i < l) :
    Calls Try.prog 5 #[.slice (some ad) l c0, .int .i64 (i : Int), .int .i64 c] w fun e w' => e = .returned (.bool true) ∧ Below w.heap.size w w' := by
  have hq := neq22
  obtain ⟨m, hm1, hm2, r1, r2⟩ := run_facts (Pl.G V) l i hi
  have H1 : Hid (((Pl.SE (Pl.G V) l ((i : Int).toNat + 1) : Nat) : Int) = m) := r1
  have H2 : Hid (∀ c : Nat, i < c → c ≤ l → ∃ r : Nat, ((Pl.SE (Pl.G V) c ((i : Int).toNat + 1) : Nat) : Int) = r ∧ (m ≤ c → r = m) ∧ (c < m → c ≤ r) ∧ r ≤ c + 1) := r2
  clear r1 r2
  rcases (show c ≤ (i : Int) ∨ ((i : Int) < c ∧ c ≤ (l : Int)) ∨ ((i : Int) < c ∧ (l : Int) < c) from by omega) with hk | hk | hk
  · go_enter Try.func5, Try.ntmps5
    go_wp2_with (first
      | (go_at_call 14; refine (bytes14_yes _ _ _ _ _ _ h).mono ?_; rintro e w' ⟨rfl, rfl⟩)
      | (at_make; refine wpList_rowFull elem5' rfl _ _ rfl _ _ _ _ l rfl rfl (by omega) (by omega) (by omega) ?_; intro w1 row1 gr1; have bel1 : Below w.heap.size w w1 := (Below.refl _ _).grown gr1 (Nat.le_refl _) (fun k h => by cases h))
      | (with_reducible show wpList _ _ _ ({ dst := _, op := Op.call { callee := Callee.builtin Builtin.copy, args := _, argTypes := _ }, type := _, pos := _, after := _, guard := _ } :: _) _ _; refine wpList_rowCopy elem5' rfl (.tmp 32) (.tmp 33) rfl w.heap.size l _ rfl row1 _ _ V rfl (hv.later bel1) ?_; intro w2 row2 gr2; have bel2 : Below w.heap.size w w2 := bel1.grown gr2 bel1.size (fun k h => by cases h; exact Nat.le_refl _))
      | (go_at_call 15; refine (stringEndModel_any (Pl.G V) w.heap.size 0 l l _ _ (by omega) (by omega) (by omega) (by exact row2.cells) _ H1.out).mono ?_; rintro e w' ⟨rfl, rfl⟩; have tok : True := trivial)
      | (go_at_call 16; have _t := tok; clear tok; refine (ZZstringEnd_to (Pl.G V) w.heap.size 0 l l _ _ (by omega) (by omega) (by omega) (by exact row2.cells) _ H1.out).mono ?_; rintro e w' ⟨rfl, rfl⟩))
    go_ret
    exact ⟨rfl, bel2⟩
  · obtain ⟨c, rfl⟩ := Int.eq_ofNat_of_zero_le (show 0 ≤ c by omega)
    obtain ⟨r, hr, hr1, hr2, hr3⟩ := H2.out c (by omega) (by omega)
    have H3 : Hid (((Pl.SE (Pl.G V) c ((i : Int).toNat + 1) : Nat) : Int) = r) := hr
    clear hr H2
    by_cases hmc : m ≤ c
    · obtain rfl : r = m := hr1 hmc
      clear hr1 hr2
      go_enter Try.func5, Try.ntmps5
      go_wp2_with (first
        | (go_at_call 14; refine (bytes14_yes _ _ _ _ _ _ h).mono ?_; rintro e w' ⟨rfl, rfl⟩)
        | (at_make; refine wpList_rowFull elem5' rfl _ _ rfl _ _ _ _ l rfl rfl (by omega) (by omega) (by omega) ?_; intro w1 row1 gr1; have bel1 : Below w.heap.size w w1 := (Below.refl _ _).grown gr1 (Nat.le_refl _) (fun k h => by cases h))
        | (with_reducible show wpList _ _ _ ({ dst := _, op := Op.call { callee := Callee.builtin Builtin.copy, args := _, argTypes := _ }, type := _, pos := _, after := _, guard := _ } :: _) _ _; refine wpList_rowCopy elem5' rfl (.tmp 32) (.tmp 33) rfl w.heap.size l _ rfl row1 _ _ V rfl (hv.later bel1) ?_; intro w2 row2 gr2; have bel2 : Below w.heap.size w w2 := bel1.grown gr2 bel1.size (fun k h => by cases h; exact Nat.le_refl _))
        | (go_at_call 15; refine (stringEndModel_any (Pl.G V) w.heap.size 0 l l _ _ (by omega) (by omega) (by omega) (by exact row2.cells) _ H1.out).mono ?_; rintro e w' ⟨rfl, rfl⟩; have tok : True := trivial)
        | (go_at_call 16; have _t := tok; clear tok; refine (ZZstringEnd_to (Pl.G V) w.heap.size 0 l l _ _ (by omega) (by omega) (by omega) (by exact row2.cells) _ H1.out).mono ?_; rintro e w' ⟨rfl, rfl⟩))
      refine (ZZstringEnd_to (Pl.G V) w.heap.size 0 c l _ _ (by omega) (by omega) (by omega) (by exact fun j hj => row2.cells j (by omega)) _ H3.out).mono ?_
      rintro e w' ⟨rfl, rfl⟩
      go_wp2_with fail
      go_ret
      exact ⟨rfl, bel2⟩
    · have hr4 : c ≤ r := hr2 (by omega)
      clear hr1 hr2
      go_enter Try.func5, Try.ntmps5
      go_wp2_with (first
        | (go_at_call 14; refine (bytes14_yes _ _ _ _ _ _ h).mono ?_; rintro e w' ⟨rfl, rfl⟩)
        | (at_make; refine wpList_rowFull elem5' rfl _ _ rfl _ _ _ _ l rfl rfl (by omega) (by omega) (by omega) ?_; intro w1 row1 gr1; have bel1 : Below w.heap.size w w1 := (Below.refl _ _).grown gr1 (Nat.le_refl _) (fun k h => by cases h))
        | (with_reducible show wpList _ _ _ ({ dst := _, op := Op.call { callee := Callee.builtin Builtin.copy, args := _, argTypes := _ }, type := _, pos := _, after := _, guard := _ } :: _) _ _; refine wpList_rowCopy elem5' rfl (.tmp 32) (.tmp 33) rfl w.heap.size l _ rfl row1 _ _ V rfl (hv.later bel1) ?_; intro w2 row2 gr2; have bel2 : Below w.heap.size w w2 := bel1.grown gr2 bel1.size (fun k h => by cases h; exact Nat.le_refl _))
        | (go_at_call 15; refine (stringEndModel_any (Pl.G V) w.heap.size 0 l l _ _ (by omega) (by omega) (by omega) (by exact row2.cells) _ H1.out).mono ?_; rintro e w' ⟨rfl, rfl⟩; have tok : True := trivial)
        | (go_at_call 16; have _t := tok; clear tok; refine (ZZstringEnd_to (Pl.G V) w.heap.size 0 l l _ _ (by omega) (by omega) (by omega) (by exact row2.cells) _ H1.out).mono ?_; rintro e w' ⟨rfl, rfl⟩))
      refine (ZZstringEnd_to (Pl.G V) w.heap.size 0 c l _ _ (by omega) (by omega) (by omega) (by exact fun j hj => row2.cells j (by omega)) _ H3.out).mono ?_
      rintro e w' ⟨rfl, rfl⟩
      go_wp2_with fail
      go_ret
      exact ⟨rfl, bel2⟩
  · go_enter Try.func5, Try.ntmps5
    go_wp2_with (first
      | (go_at_call 14; refine (bytes14_yes _ _ _ _ _ _ h).mono ?_; rintro e w' ⟨rfl, rfl⟩)
      | (at_make; refine wpList_rowFull elem5' rfl _ _ rfl _ _ _ _ l rfl rfl (by omega) (by omega) (by omega) ?_; intro w1 row1 gr1; have bel1 : Below w.heap.size w w1 := (Below.refl _ _).grown gr1 (Nat.le_refl _) (fun k h => by cases h))
      | (with_reducible show wpList _ _ _ ({ dst := _, op := Op.call { callee := Callee.builtin Builtin.copy, args := _, argTypes := _ }, type := _, pos := _, after := _, guard := _ } :: _) _ _; refine wpList_rowCopy elem5' rfl (.tmp 32) (.tmp 33) rfl w.heap.size l _ rfl row1 _ _ V rfl (hv.later bel1) ?_; intro w2 row2 gr2; have bel2 : Below w.heap.size w w2 := bel1.grown gr2 bel1.size (fun k h => by cases h; exact Nat.le_refl _))
      | (go_at_call 15; refine (stringEndModel_any (Pl.G V) w.heap.size 0 l l _ _ (by omega) (by omega) (by omega) (by exact row2.cells) _ H1.out).mono ?_; rintro e w' ⟨rfl, rfl⟩; have tok : True := trivial)
      | (go_at_call 16; have _t := tok; clear tok; refine (ZZstringEnd_to (Pl.G V) w.heap.size 0 l l _ _ (by omega) (by omega) (by omega) (by exact row2.cells) _ H1.out).mono ?_; rintro e w' ⟨rfl, rfl⟩))
    go_ret
    exact ⟨rfl, bel2⟩

end Go.Proofs.Qxb6619197a
