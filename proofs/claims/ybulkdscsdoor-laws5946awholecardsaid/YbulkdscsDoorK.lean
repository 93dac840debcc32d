import Derived.Test.YbulkdscsDoorJ
import Derived.Laws.Tables
import Derived.Carry
namespace Go.Proofs.YbulkdscsDoor
open Go.RowKit
set_option maxRecDepth 100000
set_option maxHeartbeats 2000000

theorem heap_new' {w : World} {o : Obj} {k : Nat} (h : k = w.heap.size) : (w.alloc o).heap[k]? = some o := h ▸ heap_new w o

/-- The cells of a lookup that the road reads. -/
structure Look (C : Array Value) (f g : Nat) (ov : Bool) (ra : Option Addr) (rl rc : Nat) (wait : Int) : Prop where
  done : C[24]? = some (.func (.func f) #[] #[.pointer (some ⟨g, 0, none⟩), .pointer (some ⟨g + 1, 0, none⟩), .pointer (some ⟨g + 2, 0, none⟩), .pointer (some ⟨g + 3, 0, none⟩), .pointer (some ⟨g + 4, 0, none⟩), .pointer (some ⟨g + 5, 0, none⟩)])
  over : C[25]? = some (.bool ov)
  refs : C[26]? = some (.slice ra rl rc)
  wait : C[28]? = some (.int .u64 wait)

/-- What is laid ahead of loop 2. -/
structure Made (g : Nat) (ov : Bool) (wait : Int) (la : Option Addr) (ll lc : Nat) (da : Option Addr) (dl dc : Nat) (w' : World) : Prop where
  vars : Vars g w' 0 0 #[.int .u64 0, .int .u64 0, .int .u32 0, .int .u64 0, .int .u64 0, .pointer none, .int .u16 0] (.slice none 0 0) (.slice none 0 0) .nilIface
  tl : ∃ C, w'.heap[g + 6]? = some (.cells C 53 (0, 0)) ∧ Look C 5 g ov la ll lc wait
  td : ∃ C, w'.heap[g + 7]? = some (.cells C 53 (0, 0)) ∧ Look C 6 g false da dl dc 0

theorem st9 (i : In) (l : List Value) (la da : Option Addr) (ll lc dl dc : Nat) (w : World) (Q : Exit → Act → World → Prop)
    (hf : Fr l (i.fr [(27, .slice la ll lc), (28, .slice da dl dc)]))
    (hK : ∀ l' w', Fr l' (i.fr [(27, .slice la ll lc), (28, .slice da dl dc), (31, .pointer (some ⟨w.heap.size + 0, 0, none⟩)), (32, .pointer (some ⟨w.heap.size + 1, 0, none⟩)), (33, .pointer (some ⟨w.heap.size + 2, 0, none⟩)), (34, .pointer (some ⟨w.heap.size + 3, 0, none⟩)), (35, .pointer (some ⟨w.heap.size + 4, 0, none⟩)), (36, .pointer (some ⟨w.heap.size + 5, 0, none⟩)), (37, .pointer (some ⟨w.heap.size + 6, 0, none⟩)), (38, .pointer (some ⟨w.heap.size + 7, 0, none⟩)), (39, .map (some (w.heap.size + 8))), (40, .slice none 0 0), (41, .slice none 0 0)]) → Below w.heap.size w w' → w'.heap.size = w.heap.size + 9 → Made w.heap.size i.ov i.wait la ll lc da dl dc w' → MapIs w' (w.heap.size + 8) [] → (dropS 20 (bodyOf Ybad.f3)).wp Ybad.prog Q ⟨l'.toArray, []⟩ w') :
    (dropS 9 (bodyOf Ybad.f3)).wp Ybad.prog Q ⟨l.toArray, []⟩ w := by
  refine cut _ 9 11 20 rfl ?_
  generalize dropS 20 (bodyOf Ybad.f3) = Y at hK ⊢
  obtain ⟨u, hu⟩ : ∃ u : Nat → Value, ∀ n, l.getD n (.bool false) = u n := ⟨_, fun _ => rfl⟩
  have hlen := hf.len
  simp only [In.fr, Fr, hu] at hf
  obtain ⟨h0, h1, h4, h6, h8, h9, h10, h11, h17, h19, h26, h27, h28, -⟩ := hf
  have HK := Hid.mk hK
  clear hK
  rw [frame_lit l hlen u hu, h0, h1, h4, h6, h8, h9, h10, h11, h17, h19, h26, h27, h28]
  clear hu hlen h0 h1 h4 h6 h8 h9 h10 h11 h17 h19 h26 h27 h28
  clear l
  conv => arg 2; whnf; arg 2; whnf; arg 2; whnf; arg 2; whnf; arg 2; whnf; arg 2; whnf; arg 2; whnf; arg 2; whnf; arg 2; whnf; arg 2; whnf; arg 2; whnf; arg 2; whnf
  have hmk : ∀ w, (Instr.makeMap 54 none).run Ybad.prog w = .ok (.map (some w.heap.size)) (w.alloc (.map #[] 0)) := fun _ => rfl
  go_wp2
  refine HK.out _ _ ⟨rfl, rfl, rfl, rfl, rfl, rfl, rfl, rfl, rfl, rfl, rfl, rfl, rfl, rfl, rfl, rfl, rfl, rfl, rfl, rfl, rfl, rfl, rfl, rfl, rfl⟩ ?_ ?_ ⟨⟨?_, ?_, ?_, ?_, ?_, ?_⟩, ⟨_, (hs_alloc (hs_alloc (heap_new' (by simp)) _) _), ⟨rfl, rfl, rfl, rfl⟩⟩, ⟨_, (hs_alloc (heap_new' (by simp)) _), ⟨rfl, rfl, rfl, rfl⟩⟩⟩ ⟨#[], 0, ?_, rfl⟩
  · repeat (refine Below.alloc ?_ (by simp; try omega) _)
    exact Below.refl _ _
  · simp
  · exact (hs_alloc (hs_alloc (hs_alloc (hs_alloc (hs_alloc (hs_alloc (hs_alloc (hs_alloc (heap_new' (by simp)) _) _) _) _) _) _) _) _)
  · exact (hs_alloc (hs_alloc (hs_alloc (hs_alloc (hs_alloc (hs_alloc (hs_alloc (heap_new' (by simp)) _) _) _) _) _) _) _)
  · exact (hs_alloc (hs_alloc (hs_alloc (hs_alloc (hs_alloc (hs_alloc (heap_new' (by simp)) _) _) _) _) _) _)
  · exact (hs_alloc (hs_alloc (hs_alloc (hs_alloc (hs_alloc (heap_new' (by simp)) _) _) _) _) _)
  · exact (hs_alloc (hs_alloc (hs_alloc (hs_alloc (heap_new' (by simp)) _) _) _) _)
  · exact (hs_alloc (hs_alloc (hs_alloc (heap_new' (by simp)) _) _) _)
  · exact (heap_new' (by simp))

end Go.Proofs.YbulkdscsDoor
