/-
  'copy(zzc, v)' INTO A ROW OF THE CALL's OWN OF THE SAME LENGTH, AS A LAW FOR THE WALK; 'v != nil'.
-/
import Derived.Test.Qxb6619197aReads
import Derived.Test.Qxb6619197aOwn
import Derived.Laws.CopyOwn
namespace Go.Proofs.Qxb6619197a
open Go.RowKit

section
variable {P : Program} {w : World} {ops : Array Oper} {rest : List Oper} {o : Oper} {a : Act} {Q : Exit → Act → World → Prop} {t e : TypeId} {kd : IntKind}

theorem wpList_rowCopy (E : Elem P t e kd) (hg : o.guard = none) (d s : Operand) (hop : o.op = .call { callee := .builtin .copy, args := #[d, s], argTypes := #[t, t] })
    (g n : Nat) (L0 : List Int) (hd : a.eval d = .slice (some ⟨g, 0, none⟩) n n) (hrow : Row w e kd g n n L0) (ao : Option Addr) (c : Nat) (L : List Int)
    (hs : a.eval s = .slice ao n c) (hsrc : Src w kd ao n c L)
    (hK : ∀ w', Row w' e kd g n n L → w.grownBy w' (some g) → wpList P ops Q rest (a.put o.dst (goInt n)) w') : wpList P ops Q (o :: rest) a w := by
  obtain ⟨i, hi, hz, hsz, hb⟩ := E.info
  have hsz' : (P.info? e).map (·.size) = some 1 := by rw [hi]; simp [hsz]
  have hl := hsrc.len
  have hl0 := hrow.len
  by_cases h0 : n = 0
  · subst h0
    obtain rfl : L = [] := List.eq_nil_of_length_eq_zero hl
    obtain rfl : L0 = [] := List.eq_nil_of_length_eq_zero hl0
    exact wpList_copy_nothing hg d s t t hop e E.sl hsz' _ _ 0 0 0 c hd hs rfl (hK w hrow (World.grownBy.refl _ _))
  · cases ao with
    | none => exact absurd (hsrc.hnil rfl).1 h0
    | some ad =>
      rcases hrow.2 with ⟨h', _⟩ | ⟨g', cap', cur, h', hbg, hgg, hnc, hcm, hcs, htake⟩
      · simp at h'
      · simp only [Value.slice.injEq, Option.some.injEq, Addr.mk.injEq] at h'
        obtain ⟨⟨rfl, _⟩, _, rfl⟩ := h'
        have hlen : (L.map (Value.int kd)).length = n := by simpa using hl
        refine wpList_copy_own hg d s t t hop e E.sl hsz' g 0 n n ad n c hd hs cur e hgg (L.map (Value.int kd)) (by rw [hlen]; exact (Nat.min_self n).symm) (hsrc.cell ad rfl) (by rw [hlen]; omega) (ints_oneCell _ _) ?_
        have e1 : (cur.toList.take 0 ++ (L.map (Value.int kd) ++ cur.toList.drop (0 + (L.map (Value.int kd)).length))) = L.map (Value.int kd) := by
          rw [List.take_zero, List.nil_append, List.drop_eq_nil_of_le (by rw [hlen, Array.length_toList]; omega), List.append_nil]
        rw [e1, hlen]
        refine hK _ ⟨by rw [hlen, Nat.mul_one], .inr ⟨g, n, (L.map (Value.int kd)).toArray, rfl, Nat.zero_le _, setRow_heap w g _ _ e _ hgg, Nat.le_refl _, hcm, by simpa using hl, ?_⟩⟩ ⟨rfl, rfl, rfl, by simp [World.setRow], fun k _ hne => setRow_other w g k _ (fun x => hne (by rw [x]))⟩
        rw [List.take_of_length_le (by simp; omega)]
end

/-- 'v != nil' -/
theorem neq22 : ∀ (w : World) (a : Option Addr) (n c n' c' : Nat), (binOp .neq 22 (.slice a n c) (.slice none n' c')).run Try.prog w = .ok (.bool (!a.isNone)) w :=
  fun w a n c n' c' => run_neq_slice_nil_any w 22 5 a n c n' c' Try.underlying22

end Go.Proofs.Qxb6619197a
