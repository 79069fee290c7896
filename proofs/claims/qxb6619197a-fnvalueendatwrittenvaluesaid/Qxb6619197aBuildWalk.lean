/-
  THE WALK OF 'zzBuildValue'.
-/
import Derived.Test.Qxb6619197aOwn
import Derived.Test.Qxb6619197aReads
import Derived.Test.Qxb6619197aBuild
import Derived.Deep.CutRange
import Derived.Deep.CutBlock
namespace Go.Proofs.Qxb6619197a
open Go.RowKit

theorem Try.infoB5 : (Try.prog.info? 5).map (fun i => (i.zero, i.size, i.bytes)) = some (some (.int .u8 0), 1, 1) := by kernel_rfl
theorem elemB : Elem Try.prog 22 5 .u8 := by
  obtain ⟨i, h, a, b, c⟩ := info_parts Try.infoB5
  exact ⟨Try.underlying22, i, h, a, b, by omega⟩
theorem Try.infoB3 : (Try.prog.info? 3).map (fun i => (i.zero, i.size, i.bytes)) = some (some (.int .i64 0), 1, 8) := by kernel_rfl
theorem elemC : Elem Try.prog 32 3 .i64 := by
  obtain ⟨i, h, a, b, c⟩ := info_parts Try.infoB3
  exact ⟨Try.underlying32, i, h, a, b, by omega⟩

theorem zzTricky_any (k : Int) (w : World) (h0 : 0 ≤ k) : Calls Try.prog 27 #[.int .i64 k] w fun e w' => ∃ c : Int, e = .returned (.int .u8 c) ∧ w = w' := by
  go_enter Try.func27, Try.ntmps27
  go_wp2
  all_goals
    go_ret
    exact ⟨_, rfl, rfl⟩
theorem zzDelimOf_any (d : Int) (w : World) : Calls Try.prog 23 #[.int .u8 d] w fun e w' => ∃ c : Int, e = .returned (.int .u8 c) ∧ Pl.stop c = true ∧ w = w' := by
  go_enter Try.func23, Try.ntmps23
  go_wp2
  all_goals
    go_ret
    exact ⟨_, rfl, rfl, rfl⟩

/-- The memory that zzBuildValue makes: the text (block w.heap.size), the open kinds (B1), their counts (B2). -/
structure Mem (w wr : World) (B1 B2 cap l m dk dc : Nat) (L : List Int) : Prop where
  out : Row wr 5 .u8 w.heap.size m cap L
  kin : ∃ K, Row wr 5 .u8 B1 dk l K
  cnt : ∃ C, Row wr 3 .i64 B2 dc l C
  bel : Below w.heap.size w wr
  lt1 : w.heap.size < B1
  lt2 : B1 < B2
section
variable {w wr w' : World} {B1 B2 cap l m dk dc : Nat} {L : List Int}
theorem Mem.outTo (h : Mem w wr B1 B2 cap l m dk dc L) {m' : Nat} {L' : List Int} (r : Row w' 5 .u8 w.heap.size m' cap L') (g : wr.grownBy w' (some w.heap.size)) : Mem w w' B1 B2 cap l m' dk dc L' where
  out := r
  kin := h.kin.elim fun K hK => ⟨K, hK.kept g (by have := h.lt1; omega)⟩
  cnt := h.cnt.elim fun C hC => ⟨C, hC.kept g (by have := h.lt1; have := h.lt2; omega)⟩
  bel := h.bel.grown g h.bel.size (fun k e => by cases e; exact Nat.le_refl _)
  lt1 := h.lt1
  lt2 := h.lt2
theorem Mem.kinTo (h : Mem w wr B1 B2 cap l m dk dc L) {d' : Nat} {K' : List Int} (r : Row w' 5 .u8 B1 d' l K') (g : wr.grownBy w' (some B1)) : Mem w w' B1 B2 cap l m d' dc L where
  out := h.out.kept g (by have := h.lt1; omega)
  kin := ⟨K', r⟩
  cnt := h.cnt.elim fun C hC => ⟨C, hC.kept g (by have := h.lt2; omega)⟩
  bel := h.bel.grown g h.bel.size (fun k e => by cases e; have := h.lt1; omega)
  lt1 := h.lt1
  lt2 := h.lt2
theorem Mem.cntTo (h : Mem w wr B1 B2 cap l m dk dc L) {d' : Nat} {C' : List Int} (r : Row w' 3 .i64 B2 d' l C') (g : wr.grownBy w' (some B2)) : Mem w w' B1 B2 cap l m dk d' L where
  out := h.out.kept g (by have := h.lt1; have := h.lt2; omega)
  kin := h.kin.elim fun K hK => ⟨K, hK.kept g (by have := h.lt2; omega)⟩
  cnt := ⟨C', r⟩
  bel := h.bel.grown g h.bel.size (fun k e => by cases e; have := h.lt1; have := h.lt2; omega)
  lt1 := h.lt1
  lt2 := h.lt2
theorem Mem.pop (h : Mem w wr B1 B2 cap l m dk dc L) (a b : Nat) (ha : a ≤ dk) (hb : b ≤ dc) : Mem w wr B1 B2 cap l m a b L where
  out := h.out
  kin := h.kin.elim fun _ hK => ⟨_, hK.cut a ha⟩
  cnt := h.cnt.elim fun _ hC => ⟨_, hC.cut b hb⟩
  bel := h.bel
  lt1 := h.lt1
  lt2 := h.lt2
end

theorem open_pos {L : List Int} {d : Nat} (h : Pl.Open L d) : 0 < L.length := by
  cases L with
  | nil =>
    have q := (h [] []).1
    simp [Pl.G] at q
  | cons x L => simp
def lenOf : Value → Nat | .slice _ n _ => n | _ => 0
theorem inv_open {M : List Int} {d : Nat} {x : Int} (h : Pl.Inv M d) (hx : x = 123 ∨ x = 91) : Pl.Open (M ++ [x]) (d + 1) := by
  rcases h with ⟨rfl, rfl⟩ | ⟨_, h⟩
  · exact Pl.Open.start hx
  · exact h.append (Pl.Piece.opens hx)
theorem inv_piece {M X : List Int} {d : Nat} (h : Pl.Inv M d) (hp : Pl.Piece X d d) (hd : Pl.Done X) : (d = 0 ∧ Pl.Done (M ++ X)) ∨ (1 ≤ d ∧ Pl.Open (M ++ X) d) := by
  rcases h with ⟨rfl, rfl⟩ | ⟨h1, h⟩
  · exact .inl ⟨rfl, hd⟩
  · exact .inr ⟨h1, h.append hp⟩

/-- What zzBuildValue leaves: a whole value in memory of its own. -/
def BuildPost (w : World) (l : Nat) (e : Ending) (w' : World) : Prop := ∃ (n : Nat) (L : List Int), e = .returned (.slice (some ⟨w.heap.size, 0, none⟩) n (16 * l + 4)) ∧ n ≤ 16 * l + 4 ∧ Row w' 5 .u8 w.heap.size n (16 * l + 4) L ∧ Pl.Done L ∧ Below w.heap.size w w'
theorem BuildPost.intro {w w' : World} {l : Nat} {e : Ending} (n : Nat) (L : List Int) (h1 : e = .returned (.slice (some ⟨w.heap.size, 0, none⟩) n (16 * l + 4))) (h2 : n ≤ 16 * l + 4) (h3 : Row w' 5 .u8 w.heap.size n (16 * l + 4) L) (h4 : Pl.Done L) (h5 : Below w.heap.size w w') : BuildPost w l e w' :=
  ⟨n, L, h1, h2, h3, h4, h5⟩

set_option maxRecDepth 100000 in
set_option maxHeartbeats 4000000 in
theorem build_any (a0 : Option Addr) (l c0 : Nat) (S : List Int) (w : World) (hp : Src w .u8 a0 l c0 S) (hby : ∀ j, 0 ≤ S.getD j 0 ∧ S.getD j 0 ≤ 255) (h : l ≤ 65536) :
    Calls Try.prog 22 #[.slice a0 l c0] w (BuildPost w l) := by
  have HB : Hid (∀ j, 0 ≤ S.getD j 0 ∧ S.getD j 0 ≤ 255) := hby
  clear hby
  go_enter Try.func22, Try.ntmps22
  go_wp2_with (first
    | (at_make; refine wpList_rowMake elemB rfl (.const (.int .i64 0)) (.tmp 16) rfl _ _ _ (16 * l + 4) rfl rfl (by omega) (by omega) ?_; intro w1 row1 gr1)
    | (at_make; refine wpList_rowMake elemB rfl (.const (.int .i64 0)) (.tmp 19) rfl _ _ _ l rfl rfl (by omega) (by omega) ?_; intro w2 row2 gr2)
    | (at_make; refine wpList_rowMake elemC rfl (.const (.int .i64 0)) (.tmp 22) rfl _ _ _ l rfl rfl (by omega) (by omega) ?_; intro w3 row3 gr3))
  have mem0 : Mem w w3 w1.heap.size w2.heap.size (16 * l + 4) l 0 0 0 [] :=
    { out := (row1.kept0 gr2).kept0 gr3, kin := ⟨_, row2.kept0 gr3⟩, cnt := ⟨_, row3⟩, lt1 := row1.lt, lt2 := row2.lt,
      bel := (((Below.refl _ _).grown gr1 (Nat.le_refl _) (fun k h => by cases h)).grown gr2 gr1.size (fun k h => by cases h)).grown gr3 (Nat.le_trans gr1.size gr2.size) (fun k h => by cases h) }
  clear row1 row2 row3 gr1 gr2 gr3
  generalize w1.heap.size = B1 at *
  generalize w2.heap.size = B2 at *
  go_loopw [3, 4, 5, 6] (fun v3 v4 v5 v6 wr => ∃ (k m d : Nat) (L : List Int), k ≤ l ∧ d ≤ k ∧ m + d ≤ 14 * k ∧ v6 = .int .i64 k ∧ v3 = .slice (some ⟨w.heap.size, 0, none⟩) m (16 * l + 4) ∧ v4 = .slice (some ⟨B1, 0, none⟩) d l ∧ v5 = .slice (some ⟨B2, 0, none⟩) d l ∧ Mem w wr B1 B2 (16 * l + 4) l m d d L ∧ Hid (Pl.Inv L d))
    (fun _ _ _ v6 _ => l - (intOf v6).toNat)
  case atStart => exact ⟨0, 0, 0, [], Nat.zero_le _, Nat.le_refl _, Nat.le_refl _, rfl, rfl, rfl, rfl, mem0, .inl ⟨rfl, rfl⟩⟩
  case round =>
    obtain ⟨k, m, d, L, hk, hd, hm, rfl, rfl, rfl, rfl, mem, inv⟩ := hrel
    clear mem0
    by_cases hlt : k < l
    · obtain ⟨b, off, rfl, hb, hc⟩ := hp.place (by omega)
      have hcell : wr.cell? ⟨b, off + k, none⟩ = some (.int .u8 (S.getD k 0)) := (mem.bel.cell hb).trans (hc k hlt)
      clear hc
      have hx0 := (HB.out k).1
      have hx1 := (HB.out k).2
      obtain ⟨x, hx⟩ : ∃ x, x = S.getD k 0 := ⟨_, rfl⟩
      rw [← hx] at hcell hx0 hx1
      clear hx HB hp
      by_cases c2 : x % 6 = 2
      · have e2 : (x % 6 == 2) = true := by simp; omega
        clear c2
        by_cases hd0 : d = 0
        · subst hd0
          go_wp2
          go_roundw
          case rel => exact ⟨k + 1, m, 0, L, by omega, by omega, by omega, by go_num, rfl, rfl, rfl, mem, inv⟩
          case measure => simp [intOf]; omega
        · obtain ⟨d, rfl⟩ : ∃ f, d = f + 1 := ⟨d - 1, by omega⟩
          clear hd0
          obtain ⟨K, hK⟩ := mem.kin
          have hkc : wr.cell? ⟨B1, d, none⟩ = some (.int .u8 (K.getD d 0)) := hK.cellAt (by omega)
          have hOp : Hid (Pl.Open L (d + 1)) := by
            rcases inv.out with q | q
            · omega
            · exact q.2
          generalize K.getD d 0 = y at hkc
          clear hK inv
          by_cases c : y = 91
          · have f1 : (y == 91) = true := by simp [c]
            clear c
            by_cases hd0 : d = 0
            · subst hd0
              go_wp2_with (at_builtin; refine wpList_rowApp elemB rfl (.tmp 49) (.tmp 50) rfl w.heap.size m (16 * l + 4) _ rfl mem.out 1 [93] 5 rfl rfl (by omega) ?_; intro w4 r4 g4; have mem4 := mem.outTo r4 g4)
              go_ret
              exact BuildPost.intro (m + 1) (L ++ [93]) rfl (by omega) mem4.out (Pl.Done.close hOp.out (.inr rfl)) mem4.bel
            · have hd1 : 1 ≤ d := by omega
              clear hd0
              go_wp2_with (at_builtin; refine wpList_rowApp elemB rfl (.tmp 49) (.tmp 50) rfl w.heap.size m (16 * l + 4) _ rfl mem.out 1 [93] 5 rfl rfl (by omega) ?_; intro w4 r4 g4; have mem4 := mem.outTo r4 g4)
              go_roundw
              case rel => exact ⟨k + 1, m + 1, d, L ++ [93], by omega, by omega, by omega, by go_num, rfl, rfl, rfl, mem4.pop d d (by omega) (by omega), .inr ⟨hd1, hOp.out.append (Pl.Piece.closes (.inr rfl) (by omega))⟩⟩
              case measure => simp [intOf]; omega
          · have f1 : (y == 91) = false := by simp [c]
            clear c
            by_cases hd0 : d = 0
            · subst hd0
              go_wp2_with (at_builtin; refine wpList_rowApp elemB rfl (.tmp 52) (.tmp 53) rfl w.heap.size m (16 * l + 4) _ rfl mem.out 1 [125] 5 rfl rfl (by omega) ?_; intro w4 r4 g4; have mem4 := mem.outTo r4 g4)
              go_ret
              exact BuildPost.intro (m + 1) (L ++ [125]) rfl (by omega) mem4.out (Pl.Done.close hOp.out (.inl rfl)) mem4.bel
            · have hd1 : 1 ≤ d := by omega
              clear hd0
              go_wp2_with (at_builtin; refine wpList_rowApp elemB rfl (.tmp 52) (.tmp 53) rfl w.heap.size m (16 * l + 4) _ rfl mem.out 1 [125] 5 rfl rfl (by omega) ?_; intro w4 r4 g4; have mem4 := mem.outTo r4 g4)
              go_roundw
              case rel => exact ⟨k + 1, m + 1, d, L ++ [125], by omega, by omega, by omega, by go_num, rfl, rfl, rfl, mem4.pop d d (by omega) (by omega), .inr ⟨hd1, hOp.out.append (Pl.Piece.closes (.inl rfl) (by omega))⟩⟩
              case measure => simp [intOf]; omega
      · have e2 : (x % 6 == 2) = false := by simp; omega
        clear c2
        go_upto_if 67 with (fail)
        go_cut [3] from 24 to 151 (fun v3 wc => ∃ (n : Nat) (M : List Int), v3 = .slice (some ⟨w.heap.size, 0, none⟩) n (16 * l + 4) ∧ n ≤ m + 7 ∧ Mem w wc B1 B2 (16 * l + 4) l n d d M ∧ Hid (Pl.Inv M d))
        case first =>
          by_cases hd0 : d = 0
          · subst hd0
            go_wp2_with fail
            go_meet
            case rel => exact ⟨m, L, rfl, by omega, mem, inv⟩
          · obtain ⟨d, rfl⟩ : ∃ f, d = f + 1 := ⟨d - 1, by omega⟩
            clear hd0
            have hop : Hid (Pl.Open L (d + 1)) := by
              rcases inv.out with q | q
              · omega
              · exact q.2
            clear inv
            obtain ⟨K, hK⟩ := mem.kin
            have hk' : wr.cell? ⟨B1, d, none⟩ = some (.int .u8 (K.getD d 0)) := hK.cellAt (by omega)
            obtain ⟨C, hC⟩ := mem.cnt
            have hz' : wr.cell? ⟨B2, d, none⟩ = some (.int .i64 (C.getD d 0)) := hC.cellAt (by omega)
            have hf : wr.frozen? ⟨B2, d, none⟩ = false := hC.frozenAt d
            have l1 := mem.lt1
            have l2 := mem.lt2
            clear hK hC
            obtain ⟨y, hy⟩ : ∃ y, y = K.getD d 0 := ⟨_, rfl⟩
            obtain ⟨z, hz0⟩ : ∃ z, z = C.getD d 0 := ⟨_, rfl⟩
            have hk : wr.cell? ⟨B1, d, none⟩ = some (.int .u8 y) := by rw [hy]; exact hk'
            have hz : wr.cell? ⟨B2, d, none⟩ = some (.int .i64 z) := by rw [hz0]; exact hz'
            clear hy hz0 hk' hz' hcell
            by_cases cz : 0 < z
            · by_cases cy : y = 123
              · have z1 : decide (0 < z) = true := by simp; omega
                have y1 : (y == 123) = true := by simp [cy]
                clear cz cy
                go_wp2_with (first | (at_builtin; refine wpList_rowApp elemB rfl (.tmp 76) (.tmp 77) rfl w.heap.size m (16 * l + 4) _ rfl mem.out 2 [44, 32] 5 rfl rfl (by omega) ?_; intro w4 r4 g4; have mem4 := mem.outTo r4 g4; have hk4 := g4.cell hk (by simp; omega); have hz4 := g4.cell hz (by simp; omega); have hf4 : w4.frozen? ⟨B2, d, none⟩ = false := mem4.cnt.elim fun C hC => hC.frozenAt d) | (at_builtin; refine wpList_rowApp elemB rfl (.tmp 84) (.tmp 85) rfl w.heap.size (m + 2) (16 * l + 4) _ rfl mem4.out 5 [34, 107, 34, 58, 32] 5 rfl rfl (by omega) ?_; intro w5 r5 g5; have mem5 := mem4.outTo r5 g5; have hk5 := g5.cell hk4 (by simp; omega); have hz5 := g5.cell hz4 (by simp; omega); have hf5 : w5.frozen? ⟨B2, d, none⟩ = false := mem5.cnt.elim fun C hC => hC.frozenAt d))
                go_meet
                case rel => exact ⟨m + 2 + 5, L ++ [44, 32] ++ [34, 107, 34, 58, 32], rfl, by omega, (mem5.cnt.elim fun C hC => mem5.cntTo (hC.stored d _).1 (hC.stored d _).2), .inr ⟨by omega, ((hop.out.append (Pl.Piece.comma _)).append (Pl.Piece.key _))⟩⟩
              · have z1 : decide (0 < z) = true := by simp; omega
                have y1 : (y == 123) = false := by simp [cy]
                clear cz cy
                go_wp2_with (at_builtin; refine wpList_rowApp elemB rfl (.tmp 76) (.tmp 77) rfl w.heap.size m (16 * l + 4) _ rfl mem.out 2 [44, 32] 5 rfl rfl (by omega) ?_; intro w4 r4 g4; have mem4 := mem.outTo r4 g4; have hk4 := g4.cell hk (by simp; omega); have hz4 := g4.cell hz (by simp; omega); have hf4 : w4.frozen? ⟨B2, d, none⟩ = false := mem4.cnt.elim fun C hC => hC.frozenAt d)
                go_meet
                case rel => exact ⟨m + 2, L ++ [44, 32], rfl, by omega, (mem4.cnt.elim fun C hC => mem4.cntTo (hC.stored d _).1 (hC.stored d _).2), .inr ⟨by omega, (hop.out.append (Pl.Piece.comma _))⟩⟩
            · by_cases cy : y = 123
              · have z1 : decide (0 < z) = false := by simp; omega
                have y1 : (y == 123) = true := by simp [cy]
                clear cz cy
                go_wp2_with (at_builtin; refine wpList_rowApp elemB rfl (.tmp 84) (.tmp 85) rfl w.heap.size m (16 * l + 4) _ rfl mem.out 5 [34, 107, 34, 58, 32] 5 rfl rfl (by omega) ?_; intro w5 r5 g5; have mem5 := mem.outTo r5 g5; have hk5 := g5.cell hk (by simp; omega); have hz5 := g5.cell hz (by simp; omega); have hf5 : w5.frozen? ⟨B2, d, none⟩ = false := mem5.cnt.elim fun C hC => hC.frozenAt d)
                go_meet
                case rel => exact ⟨m + 5, L ++ [34, 107, 34, 58, 32], rfl, by omega, (mem5.cnt.elim fun C hC => mem5.cntTo (hC.stored d _).1 (hC.stored d _).2), .inr ⟨by omega, (hop.out.append (Pl.Piece.key _))⟩⟩
              · have z1 : decide (0 < z) = false := by simp; omega
                have y1 : (y == 123) = false := by simp [cy]
                clear cz cy
                go_wp2_with fail
                go_meet
                case rel => exact ⟨m, L, rfl, by omega, (mem.cnt.elim fun C hC => mem.cntTo (hC.stored d _).1 (hC.stored d _).2), .inr ⟨by omega, hop.out⟩⟩
        case rest =>
          clear mem inv hcell
          obtain ⟨n, M, rfl, hn, mem, inv⟩ := hcut
          go_upto_block 2 with (fail)
          go_cut [3, 4, 5] from 24 to 151 (fun v3 v4 v5 wc => ∃ (n2 e2 : Nat) (M2 : List Int), v3 = .slice (some ⟨w.heap.size, 0, none⟩) n2 (16 * l + 4) ∧ v4 = .slice (some ⟨B1, 0, none⟩) e2 l ∧ v5 = .slice (some ⟨B2, 0, none⟩) e2 l ∧ e2 ≤ d + 1 ∧ n2 + e2 ≤ n + d + 7 ∧ Mem w wc B1 B2 (16 * l + 4) l n2 e2 e2 M2 ∧ Hid ((e2 = 0 ∧ Pl.Done M2) ∨ (1 ≤ e2 ∧ Pl.Open M2 e2)))
          case first =>
            by_cases cop : x % 6 = 0
            · have q0 : (x % 6 == 0) = true := by simp; omega
              clear cop
              go_wp2_with (first
                | (at_builtin; refine wpList_rowApp elemB rfl (.tmp 101) (.tmp 102) rfl w.heap.size n (16 * l + 4) _ rfl mem.out 1 [91] 5 rfl rfl (by omega) ?_; intro w4 r4 g4; have mem4 := mem.outTo r4 g4; obtain ⟨K4, hK4⟩ := mem4.kin)
                | (at_builtin; refine wpList_rowApp elemB rfl (.tmp 104) (.tmp 105) rfl B1 d l _ rfl hK4 1 [91] 5 rfl rfl (by omega) ?_; intro w5 r5 g5; have mem5 := mem4.kinTo r5 g5; obtain ⟨C5, hC5⟩ := mem5.cnt)
                | (at_builtin; refine wpList_rowApp elemC rfl (.tmp 107) (.tmp 108) rfl B2 d l _ rfl hC5 1 [0] 3 rfl rfl (by omega) ?_; intro w6 r6 g6; have mem6 := mem5.cntTo r6 g6))
              go_meet
              case rel => exact ⟨n + 1, d + 1, M ++ [91], rfl, rfl, rfl, by omega, by omega, mem6, .inr ⟨by omega, inv_open inv.out (.inr rfl)⟩⟩
            have n0 : ¬ x % 6 = 0 := cop
            clear cop
            by_cases cop : x % 6 = 1
            · have q0 : (x % 6 == 0) = false := by simp; omega
              have q1 : (x % 6 == 1) = true := by simp; omega
              clear cop
              go_wp2_with (first
                | (at_builtin; refine wpList_rowApp elemB rfl (.tmp 112) (.tmp 113) rfl w.heap.size n (16 * l + 4) _ rfl mem.out 1 [123] 5 rfl rfl (by omega) ?_; intro w4 r4 g4; have mem4 := mem.outTo r4 g4; obtain ⟨K4, hK4⟩ := mem4.kin)
                | (at_builtin; refine wpList_rowApp elemB rfl (.tmp 115) (.tmp 116) rfl B1 d l _ rfl hK4 1 [123] 5 rfl rfl (by omega) ?_; intro w5 r5 g5; have mem5 := mem4.kinTo r5 g5; obtain ⟨C5, hC5⟩ := mem5.cnt)
                | (at_builtin; refine wpList_rowApp elemC rfl (.tmp 118) (.tmp 119) rfl B2 d l _ rfl hC5 1 [0] 3 rfl rfl (by omega) ?_; intro w6 r6 g6; have mem6 := mem5.cntTo r6 g6))
              go_meet
              case rel => exact ⟨n + 1, d + 1, M ++ [123], rfl, rfl, rfl, by omega, by omega, mem6, .inr ⟨by omega, inv_open inv.out (.inl rfl)⟩⟩
            have n1 : ¬ x % 6 = 1 := cop
            clear cop
            by_cases cop : x % 6 = 3
            · have q0 : (x % 6 == 0) = false := by simp; omega
              have q1 : (x % 6 == 1) = false := by simp; omega
              have q3 : (x % 6 == 3) = true := by simp; omega
              clear cop
              go_wp2_with fail
              refine (zzTricky_any _ _ (by omega)).mono ?_
              rintro e w' ⟨c, rfl, rfl⟩
              by_cases hc : c = 34 ∨ c = 92
              · have HF : Hid (Pl.F [c] = [34] ++ [92] ++ [c, 34]) := Pl.F_esc hc
                rcases (show (c == 34) = true ∨ (c == 34) = false ∧ (c == 92) = true from by rcases hc with h | h <;> simp [h]) with t1 | ⟨t1, t2⟩
                all_goals
                  clear hc
                  go_wp2_with (first
                    | (at_builtin; refine wpList_rowApp elemB rfl (.tmp 127) (.tmp 128) rfl w.heap.size n (16 * l + 4) _ rfl mem.out 1 [34] 5 rfl rfl (by omega) ?_; intro w4 r4 g4; have mem4 := mem.outTo r4 g4)
                    | (at_builtin; refine wpList_rowApp elemB rfl (.tmp 136) (.tmp 137) rfl w.heap.size (n + 1) (16 * l + 4) _ rfl mem4.out 1 [92] 5 rfl rfl (by omega) ?_; intro w5 r5 g5; have mem5 := mem4.outTo r5 g5)
                    | (at_builtin; refine wpList_rowApp elemB rfl (.tmp 139) (.tmp 141) rfl w.heap.size (n + 1 + 1) (16 * l + 4) _ rfl mem5.out 2 [c, 34] 5 rfl rfl (by omega) ?_; intro w6 r6 g6; have mem6 := mem5.outTo r6 g6))
                  have hE : M ++ [34] ++ [92] ++ [c, 34] = M ++ Pl.F [c] := by rw [HF.out]; simp
                  have mem7 : Mem w w6 B1 B2 (16 * l + 4) l (n + 1 + 1 + 2) d d (M ++ Pl.F [c]) := by rw [← hE]; exact mem6
                  go_meet
                  case rel => exact ⟨n + 1 + 1 + 2, d, M ++ Pl.F [c], rfl, rfl, rfl, by omega, by omega, mem7, inv_piece inv.out (Pl.Piece.str [c] _) (Pl.Done.str [c])⟩
              · have t1 : (c == 34) = false := by simp; omega
                have t2 : (c == 92) = false := by simp; omega
                have HF : Hid (Pl.F [c] = [34] ++ [c, 34]) := Pl.F_plain (fun h => hc (.inl h)) (fun h => hc (.inr h))
                clear hc
                go_wp2_with (first
                  | (at_builtin; refine wpList_rowApp elemB rfl (.tmp 127) (.tmp 128) rfl w.heap.size n (16 * l + 4) _ rfl mem.out 1 [34] 5 rfl rfl (by omega) ?_; intro w4 r4 g4; have mem4 := mem.outTo r4 g4)
                  | (at_builtin; refine wpList_rowApp elemB rfl (.tmp 139) (.tmp 141) rfl w.heap.size (n + 1) (16 * l + 4) _ rfl mem4.out 2 [c, 34] 5 rfl rfl (by omega) ?_; intro w6 r6 g6; have mem6 := mem4.outTo r6 g6))
                have hE : M ++ [34] ++ [c, 34] = M ++ Pl.F [c] := by rw [HF.out]; simp
                have mem7 : Mem w w6 B1 B2 (16 * l + 4) l (n + 1 + 2) d d (M ++ Pl.F [c]) := by rw [← hE]; exact mem6
                go_meet
                case rel => exact ⟨n + 1 + 2, d, M ++ Pl.F [c], rfl, rfl, rfl, by omega, by omega, mem7, inv_piece inv.out (Pl.Piece.str [c] _) (Pl.Done.str [c])⟩
            have n3 : ¬ x % 6 = 3 := cop
            clear cop
            by_cases cop : x % 6 = 4
            · have q0 : (x % 6 == 0) = false := by simp; omega
              have q1 : (x % 6 == 1) = false := by simp; omega
              have q3 : (x % 6 == 3) = false := by simp; omega
              have q4 : (x % 6 == 4) = true := by simp; omega
              clear cop
              go_wp2_with (at_builtin; refine wpList_rowApp elemB rfl (.tmp 145) (.tmp 146) rfl w.heap.size n (16 * l + 4) _ rfl mem.out 7 [45, 49, 50, 46, 53, 101, 51] 5 rfl rfl (by omega) ?_; intro w4 r4 g4; have mem4 := mem.outTo r4 g4)
              go_meet
              case rel => exact ⟨n + 7, d, M ++ [45, 49, 50, 46, 53, 101, 51], rfl, rfl, rfl, by omega, by omega, mem4, inv_piece inv.out (Pl.Piece.num _) Pl.Done.num⟩
            have n4 : ¬ x % 6 = 4 := cop
            clear cop
            have q0 : (x % 6 == 0) = false := by simp; omega
            have q1 : (x % 6 == 1) = false := by simp; omega
            have q3 : (x % 6 == 3) = false := by simp; omega
            have q4 : (x % 6 == 4) = false := by simp; omega
            go_wp2_with (at_builtin; refine wpList_rowApp elemB rfl (.tmp 96) (.tmp 97) rfl w.heap.size n (16 * l + 4) _ rfl mem.out 4 [116, 114, 117, 101] 5 rfl rfl (by omega) ?_; intro w4 r4 g4; have mem4 := mem.outTo r4 g4)
            go_meet
            case rel => exact ⟨n + 4, d, M ++ [116, 114, 117, 101], rfl, rfl, rfl, by omega, by omega, mem4, inv_piece inv.out (Pl.Piece.lit _) Pl.Done.lit⟩
          case rest =>
            clear mem inv
            obtain ⟨n2, e2, M2, rfl, rfl, rfl, he2, hne, mem, inv⟩ := hcut
            by_cases hd0 : e2 = 0
            · subst hd0
              have hD : Hid (Pl.Done M2) := by
                rcases inv.out with q | q
                · exact q.2
                · omega
              clear inv
              go_wp2_with fail
              go_ret
              exact BuildPost.intro n2 M2 rfl (by omega) mem.out hD.out mem.bel
            · have he1 : 1 ≤ e2 := by omega
              have hI : Hid (Pl.Inv M2 e2) := by
                rcases inv.out with q | q
                · omega
                · exact .inr q
              clear inv hd0
              go_wp2_with fail
              go_roundw
              case rel => first | exact ⟨k + 1, n2, e2, M2, by omega, by omega, by omega, by go_num, rfl, rfl, rfl, mem, hI⟩ | ((repeat apply Exists.intro); exact ⟨⟨k + 1, n2, e2, M2, by omega, by omega, by omega, by go_num, rfl, rfl, rfl, mem, hI⟩, rfl⟩)
              case measure => simp [intOf]; omega
    · obtain rfl : l = k := by omega
      clear hp HB
      rcases inv.out with ⟨rfl, rfl⟩ | ⟨hd1, hop⟩
      · obtain rfl : m = 0 := mem.out.len.symm
        clear inv
        go_wp2_with (at_builtin; refine wpList_rowApp elemB rfl (.tmp 155) (.tmp 156) rfl w.heap.size 0 (16 * l + 4) _ rfl mem.out 2 [123, 125] 5 rfl rfl (by omega) ?_; intro w4 r4 g4; have mem4 := mem.outTo r4 g4)
        go_ret
        exact BuildPost.intro 2 [123, 125] rfl (by omega) mem4.out Pl.Done.empty mem4.bel
      · have hm1 : 1 ≤ m := by
          have q1 := mem.out.len
          have q2 := open_pos hop
          omega
        have Hop : Hid (Pl.Open L d) := hop
        clear hop inv
        have q154 : ((m : Int) == 0) = false := by simp; omega
        go_wp2_with fail
        go_loopw [3, 4] (fun v3 v4 wr => ∃ (m d : Nat) (L : List Int), d ≤ l ∧ m + d ≤ 14 * l ∧ v3 = .slice (some ⟨w.heap.size, 0, none⟩) m (16 * l + 4) ∧ v4 = .slice (some ⟨B1, 0, none⟩) d l ∧ (∃ dc, Mem w wr B1 B2 (16 * l + 4) l m d dc L) ∧ Hid ((1 ≤ d ∧ Pl.Open L d) ∨ (d = 0 ∧ Pl.Done L))) (fun _ v4 _ => lenOf v4)
        case atStart => exact ⟨m, d, L, hd, hm, rfl, rfl, ⟨d, mem⟩, .inl ⟨hd1, Hop.out⟩⟩
        case round =>
          clear mem Hop hm1 hm hd1 hd q154
          obtain ⟨m, d, L, hd, hm, rfl, rfl, ⟨dc, mem⟩, inv⟩ := hrel
          by_cases hd0 : d = 0
          · subst hd0
            have hD : Hid (Pl.Done L) := by
              rcases inv.out with q | q
              · omega
              · exact q.2
            clear inv
            go_wp2
            go_ret
            exact BuildPost.intro m L rfl (by omega) mem.out hD.out mem.bel
          · obtain ⟨d, rfl⟩ : ∃ f, d = f + 1 := ⟨d - 1, by omega⟩
            clear hd0
            obtain ⟨K, hK⟩ := mem.kin
            have hkc : wr.cell? ⟨B1, d, none⟩ = some (.int .u8 (K.getD d 0)) := hK.cellAt (by omega)
            have hOp : Hid (Pl.Open L (d + 1)) := by
              rcases inv.out with q | q
              · exact q.2
              · omega
            generalize K.getD d 0 = y at hkc
            clear hK inv
            by_cases c : y = 91
            · have f1 : (y == 91) = true := by simp [c]
              clear c
              go_wp2_with (at_builtin; refine wpList_rowApp elemB rfl (.tmp 169) (.tmp 170) rfl w.heap.size m (16 * l + 4) _ rfl mem.out 1 [93] 5 rfl rfl (by omega) ?_; intro w4 r4 g4; have mem4 := mem.outTo r4 g4)
              have inv4 : Hid ((1 ≤ d ∧ Pl.Open (L ++ [93]) d) ∨ (d = 0 ∧ Pl.Done (L ++ [93]))) := by
                by_cases hd0 : d = 0
                · subst hd0
                  exact .inr ⟨rfl, Pl.Done.close hOp.out (.inr rfl)⟩
                · exact .inl ⟨by omega, hOp.out.append (Pl.Piece.closes (.inr rfl) (by omega))⟩
              go_roundw
              case rel => exact ⟨m + 1, d, L ++ [93], by omega, by omega, rfl, rfl, ⟨dc, mem4.pop d dc (by omega) (Nat.le_refl _)⟩, inv4⟩
              case measure => simp [lenOf]
            · have f1 : (y == 91) = false := by simp [c]
              clear c
              go_wp2_with (at_builtin; refine wpList_rowApp elemB rfl (.tmp 172) (.tmp 173) rfl w.heap.size m (16 * l + 4) _ rfl mem.out 1 [125] 5 rfl rfl (by omega) ?_; intro w4 r4 g4; have mem4 := mem.outTo r4 g4)
              have inv4 : Hid ((1 ≤ d ∧ Pl.Open (L ++ [125]) d) ∨ (d = 0 ∧ Pl.Done (L ++ [125]))) := by
                by_cases hd0 : d = 0
                · subst hd0
                  exact .inr ⟨rfl, Pl.Done.close hOp.out (.inl rfl)⟩
                · exact .inl ⟨by omega, hOp.out.append (Pl.Piece.closes (.inl rfl) (by omega))⟩
              go_roundw
              case rel => exact ⟨m + 1, d, L ++ [125], by omega, by omega, rfl, rfl, ⟨dc, mem4.pop d dc (by omega) (Nat.le_refl _)⟩, inv4⟩
              case measure => simp [lenOf]

end Go.Proofs.Qxb6619197a
