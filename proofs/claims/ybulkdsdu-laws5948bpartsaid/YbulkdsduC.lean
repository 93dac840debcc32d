/-
  THE WALK of the law: the Store's box, the reader's method, the writer's try and unlock: it returns true, and the world has at most new blocks.
-/
import Derived.Test.YbulkdsduB
import Derived.Laws.Tables
import Derived.ProofKit
namespace Go.Proofs.Ybulkdsdu
open Go.ChangeShapes Go.WideShapes Go.ChangeAt Go.RowKit
set_option maxRecDepth 100000
set_option maxHeartbeats 1600000
theorem store_built : ∃ C, Yba.prog.built 126 [(57, .bool true)] = some C ∧ C.size = 150 ∧ C[37]? = some (.int .i32 0) ∧ C[39]? = some (.int .u32 0) ∧ C[40]? = some (.int .u32 0) ∧ C[41]? = some (.int .i32 0) ∧ C[126]? = some (.bool true) :=
  ⟨(Yba.prog.built 126 [(57, .bool true)]).getD #[], by kernel_rfl, by kernel_rfl, by kernel_rfl, by kernel_rfl, by kernel_rfl, by kernel_rfl, by kernel_rfl⟩

theorem wpList_built {ops : Array Oper} {rest : List Oper} {o : Oper} {a : Act} {w : World} {Q : Exit → Act → World → Prop} {l : List (Nat × Value)} (hg : o.guard = none) (t : TypeId) (parts : Array (Nat × Operand)) (ho : o.op = .build t parts)
    (hp : (parts.map fun (i, x) => (i, a.eval x)).toList = l) {C : Array Value} (hC : Yba.prog.built t l = some C)
    (h : wpList Yba.prog ops Q rest (a.put o.dst (.agg C)) w) : wpList Yba.prog ops Q (o :: rest) a w := by
  refine wpList_build hg t parts ho ?_ ?_
  · rw [hp, hC]; rfl
  · rw [hp, hC]; exact h

/-- What the law's Store reads, as far as the road looks. -/
structure Seen (b : Nat) (c0 c4 : Int) (w : World) : Prop where
  k37 : w.cell? ⟨b, 37, none⟩ = some (.int .i32 c0)
  k39 : w.cell? ⟨b, 39, none⟩ = some (.int .u32 0)
  k40 : w.cell? ⟨b, 40, none⟩ = some (.int .u32 0)
  k41 : w.cell? ⟨b, 41, none⟩ = some (.int .i32 c4)
  k126 : w.cell? ⟨b, 126, none⟩ = some (.bool true)
  z37 : w.frozen? ⟨b, 37, none⟩ = false
  z41 : w.frozen? ⟨b, 41, none⟩ = false

theorem Seen.set0 {b : Nat} {c0 c4 : Int} {w : World} (h : Seen b c0 c4 w) (y : Int) : Seen b y c4 (w.setCell ⟨b, 37, none⟩ (.int .i32 y)) :=
  ⟨World.cell?_setCell_same w _ _ h.k37, (World.cell?_setCell_other w _ _ _ (by simp)).trans h.k39, (World.cell?_setCell_other w _ _ _ (by simp)).trans h.k40,
    (World.cell?_setCell_other w _ _ _ (by simp)).trans h.k41, (World.cell?_setCell_other w _ _ _ (by simp)).trans h.k126, by simp [h.z37], by simp [h.z41]⟩
theorem Seen.set4 {b : Nat} {c0 c4 : Int} {w : World} (h : Seen b c0 c4 w) (y : Int) : Seen b c0 y (w.setCell ⟨b, 41, none⟩ (.int .i32 y)) :=
  ⟨(World.cell?_setCell_other w _ _ _ (by simp)).trans h.k37, (World.cell?_setCell_other w _ _ _ (by simp)).trans h.k39, (World.cell?_setCell_other w _ _ _ (by simp)).trans h.k40,
    World.cell?_setCell_same w _ _ h.k41, (World.cell?_setCell_other w _ _ _ (by simp)).trans h.k126, by simp [h.z37], by simp [h.z41]⟩

theorem walk  (w : World) :
    Calls Yba.prog 3 #[] w fun e w' => e = .returned (.bool true) ∧ Grown w w' := by
  obtain ⟨C, hC, hn, k37, k39, k40, k41, k126⟩ := store_built
  have s1 : Seen w.heap.size 0 0 (w.alloc (.cells C 126)) :=
    ⟨by simp [k37], by simp [k39], by simp [k40], by simp [k41], by simp [k126],
      by simp, by simp⟩
  have g1 : Grown w (w.alloc (.cells C 126)) := (Grown.refl w).alloc C 126
  generalize hw1 : w.alloc (.cells C 126) = w1 at s1 g1
  go_enter Yba.func3, Yba.ntmps3
  go_wp2_with (refine wpList_built (l := [(57, .bool true)]) rfl 126 #[(57, Operand.const (Value.bool true))] rfl (by simp [go_sem]) hC ?_)
  refine (needs_any _ _ _ _ _ s1.k37 s1.k39 s1.k40 s1.k41 s1.z41 s1.k126).mono ?_
  rintro e w2 ⟨rfl, hw2⟩
  have s2 : Seen w.heap.size 0 0 w2 := hw2 ▸ (s1.set4 1).set4 0
  have g2 : Grown w w2 := hw2 ▸ (g1.setCell (a := ⟨w.heap.size, 41, none⟩) (Nat.le_refl _) (.int .i32 1)).setCell (a := ⟨w.heap.size, 41, none⟩) (Nat.le_refl _) (.int .i32 0)
  clear hw2
  go_wp2_with (fail)
  refine (rwtry_free w.heap.size 37 _ _ _ s2.k37 s2.k39 s2.k40 s2.k41 s2.z37 s2.z41).mono ?_
  rintro e w3 ⟨rfl, hw3⟩
  have s3 : Seen w.heap.size 1 (-1073741824) w3 := hw3 ▸ (s2.set0 1).set4 (-1073741824)
  have g3 : Grown w w3 := hw3 ▸ (g2.setCell (a := ⟨w.heap.size, 37, none⟩) (Nat.le_refl _) (.int .i32 1)).setCell (a := ⟨w.heap.size, 41, none⟩) (Nat.le_refl _) (.int .i32 (-1073741824))
  clear hw3
  go_wp2_with (fail)
  refine (rwunlock_held w.heap.size 37 _ _ _ s3.k37 s3.k39 s3.k40 s3.k41 s3.z37 s3.z41).mono ?_
  rintro e w4 ⟨rfl, hw4⟩
  have g4 : Grown w w4 := hw4 ▸ (g3.setCell (a := ⟨w.heap.size, 41, none⟩) (Nat.le_refl _) (.int .i32 0)).setCell (a := ⟨w.heap.size, 37, none⟩) (Nat.le_refl _) (.int .i32 0)
  clear hw4
  go_wp2
  go_ret
  exact ⟨rfl, g4⟩
end Go.Proofs.Ybulkdsdu
