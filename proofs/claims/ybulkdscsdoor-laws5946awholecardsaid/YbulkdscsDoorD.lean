/-
  Contracts: Stop (39), settle (14), routed (10).
-/
import Derived.Test.YbulkdscsDoorC
namespace Go.Proofs.YbulkdscsDoor
open Go.RowKit

theorem Ybad.info47 : (Ybad.prog.info? 47).map (fun i => (i.zero, i.size, i.bytes)) = some (some (.int .u64 0), 1, 8) := by kernel_rfl

set_option maxHeartbeats 1000000 in
theorem stop_any (E : Nat) (n t : Int) (w : World) (h : w.heap[E]? = some (.cells #[.slice none 0 0, .int .i64 n] 60 (0, 0))) :
    Calls Ybad.prog 39 #[.pointer (some ⟨E, 0, none⟩), .int .u64 t] w fun e w' => e = .returned (.tuple #[]) ∧ ∃ g c, w'.heap[E]? = some (.cells #[.slice (some ⟨g, 0, none⟩) 1 c, .int .i64 n] 60 (0, 0)) ∧ w'.cell? ⟨g, 0, none⟩ = some (.int .u64 t) ∧
      w.heap.size ≤ g ∧ But [E] w w' := by
  obtain ⟨i0, hi, hz0, hz1, hz2⟩ := info_parts Ybad.info47
  have c0 := cell_blk h
  have f0 := free_blk h
  have z0 := (Array.getElem?_eq_some_iff.1 h).1
  have H := Hid.mk h
  clear h
  go_enter Ybad.func39, Ybad.ntmps39
  go_wp2_with (at_builtin; refine wpList_append_own _ rfl (.tmp 8) (.tmp 10) 58 rfl w.heap.size 47 i0 _ 1 8 Ybad.underlying58 hi hz0 hz1 hz2 rfl (by decide) _ 0 [] rfl (World.ownsRow_nil _ _ _ _) ⟨w.heap.size, 0, none⟩ 1 1 [.int .u64 t] rfl rfl ?c1 ?c2 ?c3 ?c4 ?c5 ?_)
  case c1 =>
    intro j u hj
    match j, hj with
    | 0, hj => simp at hj; subst hj; simp [Addr.add]
  case c2 => intro u hu; simp at hu; subst hu; rfl
  case c3 => decide
  case c4 => decide
  case c5 => simp
  intro v' w1 ho hg hn
  obtain ⟨g, c, rfl, hgs, hcell, hB, hG⟩ : ∃ g c, v' = .slice (some ⟨g, 0, none⟩) 1 c ∧ w.heap.size ≤ g ∧ w1.cell? ⟨g, 0, none⟩ = some (.int .u64 t) ∧ Below w.heap.size w w1 ∧ g < w1.heap.size := by
    have hB : Below w.heap.size w w1 := ((Below.refl _ _).alloc (Nat.le_refl _) _).grown hg (by simp) (by intro k hk; simp [Value.ownBlock] at hk)
    rcases id ho.2 with ⟨h1, _⟩ | ⟨g, c, cur, rfl, hb, hh, _⟩
    · exact absurd h1 hn
    · exact ⟨g, c, rfl, hb, by rw [ho.cellAt 0 (by omega)]; rfl, hB, (Array.getElem?_eq_some_iff.1 hh).1⟩
  have HB := Hid.mk hB
  have c1 : ∀ o, w1.cell? ⟨E, o, none⟩ = (#[.slice none 0 0, .int .i64 n] : Array Value)[o]? := fun o => by rw [hB.cell z0]; exact c0 o
  have f1 : ∀ o, w1.frozen? ⟨E, o, none⟩ = false := fun o => by rw [hB.frozen z0]; exact f0 o
  clear ho hg hn hB
  go_wp2
  go_end0
  refine ⟨rfl, g, c, ?_, ?_, hgs, ?_⟩
  · have h1 : w1.heap[E]? = some (.cells #[.slice none 0 0, .int .i64 n] 60 (0, 0)) := by rw [HB.out.block E z0]; exact H.out
    have := hs_same h1 0 (.slice (some ⟨g, 0, none⟩) 1 c)
    simpa using this
  · rw [World.cell?_setCell_other _ _ _ _ (fun e => by cases e; omega)]; exact hcell
  · exact (But.of_below HB.out).setCell (by simp) _

end Go.Proofs.YbulkdscsDoor
