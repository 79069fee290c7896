/-
  A ROW OF BYTES THAT THE CALL ITSELF MADE ('Row'), AND 'make([]byte, n)' AS A LAW FOR THE WALK THAT KEEPS 'Grown'.
-/
import Derived.Test.Qxb6619288aRows
import Derived.WalkKit
import Derived.WalkSpells
import Derived.WalkLawsBesides
import Derived.Laws.BytesArg
namespace Go.Proofs.Qxb6619288a
open Go.RowKit

/-- t is a slice type, its elements integers of kind kd (type e), one cell each. -/
structure Elem (P : Program) (t e : TypeId) (kd : IntKind) : Prop where
  sl : P.underlying t = some (.slice e)
  info : ∃ i, P.info? e = some i ∧ i.zero = some (.int kd 0) ∧ i.size = 1 ∧ i.bytes ≤ 8

/-- Block g is a row of the call's own; the slice at its head, of length n and capacity cap, holds the numbers L. -/
def Row (w : World) (e : TypeId) (kd : IntKind) (g n cap : Nat) (L : List Int) : Prop :=
  w.ownsRow 0 e 1 (.slice (some ⟨g, 0, none⟩) n cap) n (L.map (Value.int kd))

section
variable {w w' : World} {e : TypeId} {kd : IntKind} {g n cap : Nat} {L : List Int}
theorem Row.len (h : Row w e kd g n cap L) : L.length = n := by simpa using h.1
theorem map_getD (L : List Int) (kd : IntKind) (j : Nat) (hj : j < L.length) : (L.map (Value.int kd))[j]? = some (.int kd (L.getD j 0)) := by
  simp [List.getD, List.getElem?_eq_getElem hj]
theorem Row.cellAt (h : Row w e kd g n cap L) {j : Nat} (hj : j < n) : w.cell? ⟨g, j, none⟩ = some (.int kd (L.getD j 0)) := by
  rw [World.ownsRow.cellAt h j (by omega), map_getD L kd j (by rw [h.len]; exact hj)]
theorem Row.cells (h : Row w e kd g n cap L) : ∀ j, j < n → w.cell? ⟨g, 0 + j, none⟩ = some (.int kd (L.getD j 0)) := fun j hj => by
  rw [Nat.zero_add]; exact h.cellAt hj
theorem Row.frozenAt (h : Row w e kd g n cap L) (j : Nat) : w.frozen? ⟨g, j, none⟩ = false := World.ownsRow.frozenAt h j
theorem Row.stored (h : Row w e kd g n cap L) (j : Nat) (x : Int) : Row (w.setCell ⟨g, j, none⟩ (.int kd x)) e kd g n cap (L.set j x) := by
  have h1 := (World.ownsRow.stored h j (.int kd x)).1
  rw [← List.map_set] at h1
  exact h1
end

section
variable {P : Program} {w : World} {ops : Array Oper} {rest : List Oper} {o : Oper} {a : Act} {Q : Exit → Act → World → Prop} {t e : TypeId} {kd : IntKind}
/-- 'make([]T, n)': a new row of zeros; nothing else has turned. -/
theorem wpList_rowFull (E : Elem P t e kd) (hg : o.guard = none) (l c : Operand) (hop : o.op = Op.makeSlice t l c)
    (kl kc : IntKind) (C1 C2 : Int) (n : Nat) (hl : a.eval l = .int kl C1) (hc : a.eval c = .int kc C2) (hC1 : C1 = (n : Int)) (hC2 : C2 = (n : Int)) (hn : n ≤ 1099511627776)
    (hK : ∀ w', Row w' e kd w.heap.size n n (List.replicate n 0) → (∀ W, Grown W w → Grown W w') → wpList P ops Q rest (a.put o.dst (.slice (some ⟨w.heap.size, 0, none⟩) n n)) w') :
    wpList P ops Q (o :: rest) a w := by
  obtain ⟨i, hi, hz, hs, hb⟩ := E.info
  have hb1 := Nat.mul_le_mul hb hn
  subst hC1 hC2
  have hb' : (i.bytes : Int) * (n : Int) ≤ 281474976710656 := by
    have h : ((i.bytes * n : Nat) : Int) ≤ 281474976710656 := by omega
    rwa [Int.natCast_mul] at h
  have hrun := run_make (P := P) w t e i (.int kd 0) E.sl hi hz kl kc n n (by omega) (Int.le_refl _) hb' (by omega)
  simp only [Int.toNat_natCast, hs, Nat.mul_one] at hrun
  refine wpList_plain hg fun K hK' => ?_
  unfold Oper.wp
  simp [execOp, hop, hl, hc, hrun, Result.andThen]
  refine hK' _ _ (hK _ ?_ (fun W h => Grown.alloc h _ _))
  have h1 := World.ownsRow_lit (base := 0) (e := e) (size := 1) w (madeCells (Value.int kd 0).cells n) n (Nat.zero_le _) (by unfold maxLen; omega) (by rw [size_madeCells, Nat.mul_one])
  have h3 : (madeCells (Value.int kd 0).cells n).toList = (List.replicate n (0 : Int)).map (Value.int kd) := by
    show (madeCells #[Value.int kd 0] n).toList = _
    rw [toList_madeCells_one, List.map_replicate]
  rw [h3] at h1
  exact h1
end

theorem Try.info5 : (Try.prog.info? 5).map (fun i => (i.zero, i.size, i.bytes)) = some (some (.int .u8 0), 1, 1) := by kernel_rfl
theorem elem5 : Elem Try.prog 25 5 .u8 := by
  obtain ⟨i, h, a, b, c⟩ := info_parts Try.info5
  exact ⟨Try.underlying25, i, h, a, b, by omega⟩

end Go.Proofs.Qxb6619288a
