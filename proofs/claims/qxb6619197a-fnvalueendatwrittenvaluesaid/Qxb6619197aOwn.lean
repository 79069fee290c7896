/-
  ROWS OF INTEGERS THAT THE CALL ITSELF MADE ('Row'), SLICES THAT ARE READ ('Src'), AND THE WALK's LAWS FOR make, append WITHIN THE CAPACITY AND copy IN THESE WORDS.
-/
import Derived.WalkKit
import Derived.WalkSpells
import Derived.WalkLawsBesides
namespace Go.Proofs.Qxb6619197a
open Go.RowKit

/-- t is a slice type, its elements integers of kind kd (type e), one cell each. -/
structure Elem (P : Program) (t e : TypeId) (kd : IntKind) : Prop where
  sl : P.underlying t = some (.slice e)
  info : ∃ i, P.info? e = some i ∧ i.zero = some (.int kd 0) ∧ i.size = 1 ∧ i.bytes ≤ 8

/-- Block g is a row of the call's own; the slice at its head, of length n and capacity cap, holds the numbers L. -/
def Row (w : World) (e : TypeId) (kd : IntKind) (g n cap : Nat) (L : List Int) : Prop :=
  w.ownsRow 0 e 1 (.slice (some ⟨g, 0, none⟩) n cap) n (L.map (Value.int kd))

/-- The slice (a, n, c) is read: it holds the numbers L. -/
structure Src (w : World) (kd : IntKind) (a : Option Addr) (n c : Nat) (L : List Int) : Prop where
  len : L.length = n
  hnil : a = none → n = 0 ∧ c = 0
  cell : ∀ ad, a = some ad → ∀ j u, (L.map (Value.int kd))[j]? = some u → w.cell? (ad.add j) = some u

theorem grown_trans {a b c : World} {row : Option Nat} (h : a.grownBy b row) (k : b.grownBy c row) : a.grownBy c row :=
  ⟨k.os.trans h.os, k.tape.trans h.tape, k.output.trans h.output, Nat.le_trans h.size k.size, fun i hi hne => (k.block i (Nat.lt_of_lt_of_le hi h.size) hne).trans (h.block i hi hne)⟩
theorem grown_of_none {a b : World} {row : Option Nat} (h : a.grownBy b none) : a.grownBy b row :=
  ⟨h.os, h.tape, h.output, h.size, fun i hi _ => h.block i hi (by simp)⟩

section
variable {w w' : World} {e : TypeId} {kd : IntKind} {g n cap : Nat} {L : List Int}

theorem Row.len (h : Row w e kd g n cap L) : L.length = n := by simpa using h.1
theorem Row.kept {g' : Nat} (h : Row w e kd g n cap L) (hg : w.grownBy w' (some g')) (hne : g ≠ g') : Row w' e kd g n cap L :=
  World.ownsRow.kept h hg (.inr (by simpa [Value.ownBlock] using hne))
theorem Row.kept0 (h : Row w e kd g n cap L) (hg : w.grownBy w' none) : Row w' e kd g n cap L :=
  World.ownsRow.kept h hg (.inr (by simp [Value.ownBlock]))
theorem Row.alloc (h : Row w e kd g n cap L) (o : Obj) : Row (w.alloc o) e kd g n cap L := World.ownsRow.alloc h o
theorem Row.lt (h : Row w e kd g n cap L) : g < w.heap.size := (World.ownsRow.lt h g (by simp [Value.ownBlock])).2
theorem Row.le (h : Row w e kd g n cap L) : n ≤ cap ∧ cap ≤ maxLen := by
  rcases h.2 with ⟨h', _⟩ | ⟨g', cap', cur, h', _, _, hnc, hcm, _⟩
  · simp at h'
  · simp only [Value.slice.injEq] at h'
    obtain ⟨_, _, rfl⟩ := h'
    exact ⟨hnc, hcm⟩
theorem map_getD (L : List Int) (kd : IntKind) (j : Nat) (hj : j < L.length) : (L.map (Value.int kd))[j]? = some (.int kd (L.getD j 0)) := by
  simp [List.getD, List.getElem?_eq_getElem hj]
theorem Row.cellAt (h : Row w e kd g n cap L) {j : Nat} (hj : j < n) : w.cell? ⟨g, j, none⟩ = some (.int kd (L.getD j 0)) := by
  rw [World.ownsRow.cellAt h j (by omega), map_getD L kd j (by rw [h.len]; exact hj)]
theorem Row.cells (h : Row w e kd g n cap L) : ∀ j, j < n → w.cell? ⟨g, 0 + j, none⟩ = some (.int kd (L.getD j 0)) := fun j hj => by
  rw [Nat.zero_add]; exact h.cellAt hj
theorem Row.frozenAt (h : Row w e kd g n cap L) (j : Nat) : w.frozen? ⟨g, j, none⟩ = false := World.ownsRow.frozenAt h j
theorem Row.stored (h : Row w e kd g n cap L) (j : Nat) (x : Int) : Row (w.setCell ⟨g, j, none⟩ (.int kd x)) e kd g n cap (L.set j x) ∧ w.grownBy (w.setCell ⟨g, j, none⟩ (.int kd x)) (some g) := by
  have := World.ownsRow.stored h j (.int kd x)
  refine ⟨?_, this.2⟩
  have h1 := this.1
  rw [← List.map_set] at h1
  exact h1
theorem Row.src (h : Row w e kd g n cap L) : Src w kd (some ⟨g, 0, none⟩) n cap L where
  len := h.len
  hnil := fun x => by cases x
  cell := fun ad had j u hu => by
    cases had
    exact World.ownsRow.cells h (by simp [Value.ownBlock]) j u hu
/-- The first m of n elements: 'xs[:m]'. -/
theorem Row.cut (h : Row w e kd g n cap L) (m : Nat) (hm : m ≤ n) : Row w e kd g m cap (L.take m) := by
  have hl := h.len
  refine ⟨by simp; omega, ?_⟩
  rcases h.2 with ⟨h', _⟩ | ⟨g', cap', cur, h', hb, hg, hnc, hcm, hcs, htake⟩
  · simp at h'
  · simp only [Value.slice.injEq, Option.some.injEq, Addr.mk.injEq] at h'
    obtain ⟨⟨rfl, _⟩, _, rfl⟩ := h'
    refine .inr ⟨g, cap, cur, rfl, hb, hg, by omega, hcm, hcs, ?_⟩
    rw [List.map_take, ← htake, List.take_take]
    congr 1
    omega
end

section
variable {w w' : World} {kd : IntKind} {a : Option Addr} {n c : Nat} {L : List Int}
theorem Src.later (h : Src w kd a n c L) (hb : Below w.heap.size w w') : Src w' kd a n c L where
  len := h.len
  hnil := h.hnil
  cell := fun ad had j u hu => cell_later hb (h.cell ad had j u hu)
theorem Src.place (h : Src w kd a n c L) (hn : 0 < n) : ∃ b off, a = some ⟨b, off, none⟩ ∧ b < w.heap.size ∧ ∀ j, j < n → w.cell? ⟨b, off + j, none⟩ = some (.int kd (L.getD j 0)) := by
  cases a with
  | none => have := (h.hnil rfl).1; omega
  | some ad =>
    have hc : ∀ j, j < n → w.cell? (ad.add j) = some (.int kd (L.getD j 0)) := fun j hj => h.cell ad rfl j _ (map_getD L kd j (by rw [h.len]; exact hj))
    obtain ⟨b, off, spot⟩ := ad
    have hspot : spot = none := by simpa [Addr.add] using World.cell?_spot (hc 0 hn)
    subst hspot
    have hc' : ∀ j, j < n → w.cell? ⟨b, off + j, none⟩ = some (.int kd (L.getD j 0)) := fun j hj => by rw [← Go.WideShapes.add_plain]; exact hc j hj
    exact ⟨b, off, rfl, World.block_lt_of_cell? w _ (hc' 0 hn), hc'⟩
end

/-- From the shell's words on an argument to 'Src'. -/
theorem src_of_row {w : World} {kd : IntKind} {a : Option Addr} {len cap : Nat} {zs : List Int}
    (h : (a = none ∧ len = 0 ∧ cap = 0 ∧ zs = []) ∨ ∃ x, a = some x ∧ len ≤ cap ∧ cap ≤ maxLen ∧ zs.length = cap ∧ (∀ i, i < zs.length → w.cell? (x.add i) = some (.int kd (zs.getD i 0))) ∧ ∀ n ∈ zs, (Lit.int kd n).wf = true) :
    Src w kd a len cap (zs.take len) ∧ len ≤ maxLen ∧ ∀ x ∈ zs.take len, (Lit.int kd x).wf = true := by
  rcases h with ⟨rfl, rfl, rfl, rfl⟩ | ⟨x, rfl, hl, hm, hz, hcell, hwf⟩
  · exact ⟨⟨rfl, fun _ => ⟨rfl, rfl⟩, fun ad had => by cases had⟩, Nat.zero_le _, fun x hx => by cases hx⟩
  · refine ⟨⟨by simp; omega, (fun y => by cases y), ?_⟩, by omega, fun y hy => hwf y (List.mem_of_mem_take hy)⟩
    intro ad had j u hu
    cases had
    have hj : j < (zs.take len).length := by
      have := (List.getElem?_eq_some_iff.1 hu).1
      simpa using this
    rw [map_getD _ _ _ hj] at hu
    cases hu
    have hj' : j < len := by simp at hj; omega
    rw [hcell j (by omega)]
    simp [hj']

section
variable {P : Program} {w : World} {ops : Array Oper} {rest : List Oper} {o : Oper} {a : Act} {Q : Exit → Act → World → Prop} {t e : TypeId} {kd : IntKind}

/-- 'make([]T, 0, n)'. -/
theorem wpList_rowMake (E : Elem P t e kd) (hg : o.guard = none) (l c : Operand) (hop : o.op = Op.makeSlice t l c)
    (kl kc : IntKind) (C : Int) (n : Nat) (hl : a.eval l = .int kl 0) (hc : a.eval c = .int kc C) (hC : C = (n : Int)) (hn : n ≤ 1099511627776)
    (hK : ∀ w', Row w' e kd w.heap.size 0 n [] → w.grownBy w' none → wpList P ops Q rest (a.put o.dst (.slice (some ⟨w.heap.size, 0, none⟩) 0 n)) w') :
    wpList P ops Q (o :: rest) a w := by
  obtain ⟨i, hi, hz, hs, hb⟩ := E.info
  have := Nat.mul_le_mul hb hn
  exact wpList_make_own w hg l c t hop 0 e i (.int kd 0) 1 E.sl hi hz hs kl kc C n hl hc hC (by omega) (by unfold maxLen; omega) (Nat.zero_le _) (fun w' h1 h2 => hK w' h1 h2)

/-- 'make([]T, n)'. -/
theorem wpList_rowFull (E : Elem P t e kd) (hg : o.guard = none) (l c : Operand) (hop : o.op = Op.makeSlice t l c)
    (kl kc : IntKind) (C1 C2 : Int) (n : Nat) (hl : a.eval l = .int kl C1) (hc : a.eval c = .int kc C2) (hC1 : C1 = (n : Int)) (hC2 : C2 = (n : Int)) (hn : n ≤ 1099511627776)
    (hK : ∀ w', Row w' e kd w.heap.size n n (List.replicate n 0) → w.grownBy w' none → wpList P ops Q rest (a.put o.dst (.slice (some ⟨w.heap.size, 0, none⟩) n n)) w') :
    wpList P ops Q (o :: rest) a w := by
  obtain ⟨i, hi, hz, hs, hb⟩ := E.info
  have := Nat.mul_le_mul hb hn
  refine wpList_make_full w hg l c t hop 0 e i (.int kd 0) 1 E.sl hi hz hs kl kc C1 C2 n hl hc hC1 hC2 (by omega) (by unfold maxLen; omega) (Nat.zero_le _) (fun w' h1 h2 => hK w' ?_ h2)
  have h3 : (madeCells (Value.int kd 0).cells (n * 1)).toList = (List.replicate n (0 : Int)).map (Value.int kd) := by
    show (madeCells #[Value.int kd 0] (n * 1)).toList = _
    rw [toList_madeCells_one, List.map_replicate, Nat.mul_one]
  rw [h3] at h1
  exact h1

/-- 'append(out, x, y, ..)': the new elements lie in a block just laid. -/
theorem wpList_rowApp (E : Elem P t e kd) (hg : o.guard = none) (s x : Operand) (hop : o.op = Op.call { callee := Callee.builtin Builtin.append, args := #[s, x], argTypes := #[t, t] })
    (g k cap : Nat) (L : List Int) (hs : a.eval s = .slice (some ⟨g, 0, none⟩) k cap) (hown : Row w e kd g k cap L) (m : Nat) (news : List Int) (te : TypeId)
    (hx : a.eval x = .slice (some ⟨w.heap.size, 0, none⟩) m m) (hm : news.length = m) (b1 : k + m ≤ cap)
    (hK : ∀ w', Row w' e kd g (k + m) cap (L ++ news) → w.grownBy w' (some g) → wpList P ops Q rest (a.put o.dst (.slice (some ⟨g, 0, none⟩) (k + m) cap)) w') :
    wpList P ops Q (o :: rest) a (w.alloc (.cells (news.map (Value.int kd)).toArray te)) := by
  obtain ⟨i, hi, hz, hsz, hb⟩ := E.info
  refine wpList_append_fits _ hg s x t hop 0 e i 1 E.sl hi hsz g k cap _ hs (World.ownsRow.alloc hown _) ⟨w.heap.size, 0, none⟩ m m (news.map (Value.int kd)) hx (by simp [hm]) ?_ (ints_oneCell _ _) b1 (fun w' h1 h2 => hK w' ?_ ?_)
  · intro j u hu
    rw [Go.WideShapes.add_plain, Nat.zero_add, World.cell?_alloc_new]
    simpa using hu
  · rw [← List.map_append] at h1
    exact h1
  · exact grown_trans (World.grownBy_alloc _ _ _) h2

/-- 'append(out, xs...)'. -/
theorem wpList_rowAppSrc (E : Elem P t e kd) (hg : o.guard = none) (s x : Operand) (hop : o.op = Op.call { callee := Callee.builtin Builtin.append, args := #[s, x], argTypes := #[t, t] })
    (g k cap : Nat) (L : List Int) (hs : a.eval s = .slice (some ⟨g, 0, none⟩) k cap) (hown : Row w e kd g k cap L) (ao : Option Addr) (m c : Nat) (L2 : List Int)
    (hx : a.eval x = .slice ao m c) (hsrc : Src w kd ao m c L2) (b1 : k + m ≤ cap)
    (hK : ∀ w', Row w' e kd g (k + m) cap (L ++ L2) → w.grownBy w' (some g) → wpList P ops Q rest (a.put o.dst (.slice (some ⟨g, 0, none⟩) (k + m) cap)) w') :
    wpList P ops Q (o :: rest) a w := by
  obtain ⟨i, hi, hz, hsz, hb⟩ := E.info
  refine wpList_append_fits_any _ hg s x t hop 0 e i 1 E.sl hi hsz g k cap _ hs hown ao m c (L2.map (Value.int kd)) hx (by simp [hsrc.len]) hsrc.hnil hsrc.cell (ints_oneCell _ _) b1 (fun w' h1 h2 => hK w' ?_ h2)
  rw [← List.map_append] at h1
  exact h1
end

end Go.Proofs.Qxb6619197a
