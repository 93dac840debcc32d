/-
  Appending to the rows that the law owns.
-/
import Derived.Test.YbulkdscsDoorG
import Derived.Laws.AppendOwnNone
import Derived.Laws.MakeOwn
namespace Go.Proofs.YbulkdscsDoor
open Go.RowKit

theorem Ybad.info22 : (Ybad.prog.info? 22).map (fun i => (i.zero, i.size, i.bytes)) = some (some (.int .u32 0), 1, 4) := by kernel_rfl
theorem Ybad.info46 : (Ybad.prog.info? 46).map (fun i => (i.zero, i.size, i.bytes)) = some (some (.pointer none), 1, 8) := by kernel_rfl

/-- A row of uint32 that the law owns reads as the integers zs. -/
theorem row_of_owns {w : World} {base : Nat} {v : Value} {zs : List Int} (h : w.ownsRow base 22 1 v zs.length (zs.map (.int .u32 ·))) : RowIs .u32 w v zs := by
  rcases h.2 with ⟨h1, h2⟩ | ⟨g, cap, cur, rfl, hb, hh, _, _, _, ht⟩
  · exact .inl ⟨h1, List.length_eq_zero_iff.1 h2⟩
  · refine .inr ⟨_, _, rfl, fun i hi => ?_⟩
    have := h.cellAt i (by simpa using hi)
    rw [Go.WideShapes.add_plain, Nat.zero_add, this]
    simp [List.getD, hi]

variable {ops : Array Oper} {rest : List Oper} {o : Oper} {a : Act} {w : World} {Q : Exit → Act → World → Prop} in
/-- append(v, x...) of a row x that reads as the integers zs. -/
theorem wpList_append_row (hgd : o.guard = none) (s x : Operand) (ho : o.op = .call { callee := .builtin .append, args := #[s, x], argTypes := #[23, 23] })
    (base : Nat) (v : Value) (n : Nat) (xs : List Value) (hs : a.eval s = v) (hown : w.ownsRow base 22 1 v n xs) (vx : Value) (zs : List Int) (hx : a.eval x = vx) (hr : RowIs .u32 w vx zs)
    (hb : n + zs.length ≤ 1000000) (hbase : base ≤ w.heap.size)
    (h : ∀ v' w', w'.ownsRow base 22 1 v' (n + zs.length) (xs ++ zs.map (.int .u32 ·)) → w.grownBy w' v.ownBlock → wpList Ybad.prog ops Q rest (a.put o.dst v') w') : wpList Ybad.prog ops Q (o :: rest) a w := by
  obtain ⟨i0, hi, hz0, hz1, hz2⟩ := info_parts Ybad.info22
  rcases hr with ⟨h1, h2⟩ | ⟨ad, c, h1, h2⟩
  · subst h1 h2
    refine wpList_append_own_none hgd s x 23 ho base 22 i0 1 Ybad.underlying23 hi v n xs hs hown hx (hs ▸ h v w ?_ ?_)
    · simpa using hown
    · exact ⟨rfl, rfl, rfl, Nat.le_refl _, fun _ _ _ => rfl⟩
  · subst h1
    refine wpList_append_own w hgd s x 23 ho base 22 i0 _ 1 4 Ybad.underlying23 hi hz0 hz1 hz2 rfl (by decide) v n xs hs hown ad zs.length c (zs.map (.int .u32 ·)) hx (by simp) ?_ ?_ ?_ ?_ hbase fun v' w' k1 k2 _ => h v' w' k1 k2
    · intro j u hj
      have hlt : j < zs.length := by
        have := (List.getElem?_eq_some_iff.1 hj).1
        simpa using this
      rw [h2 j hlt]
      simp [hlt] at hj
      simp [List.getD, hlt, hj]
    · intro u hu
      obtain ⟨z, _, rfl⟩ := List.mem_map.1 hu
      rfl
    · simp only [maxLen]; omega
    · omega
end Go.Proofs.YbulkdscsDoor
