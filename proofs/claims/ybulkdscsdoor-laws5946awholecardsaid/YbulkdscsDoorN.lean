import Derived.Test.YbulkdscsDoorM
namespace Go.Proofs.YbulkdscsDoor
open Go.RowKit
set_option maxRecDepth 100000
set_option maxHeartbeats 2000000

theorem st22 (i : In) (l : List Value) (g : Nat) (la da : Option Addr) (ll lc dl dc : Nat) (ks : List Int) (os : List Value) (kv ow : Value) (tg : Option Addr) (B : Nat) (w : World) (Q : Exit → Act → World → Prop)
    (hf : Fr l (i.fr (mid g la ll lc da dl dc [(40, kv), (41, ow)]))) (hT : TwoRows B kv ow ks os w) (hkl : ks.length ≤ 9000)
    (htg : (tg = none ∧ idx i.r ks = -1) ∨ ∃ j : Nat, idx i.r ks = j ∧ j < ks.length ∧ os[j]? = some (.pointer tg))
    (hK : ∀ l', Fr l' (i.fr (mid g la ll lc da dl dc [(40, kv), (41, ow), (46, .pointer tg)])) → (dropS 24 (bodyOf Ybad.f3)).wp Ybad.prog Q ⟨l'.toArray, []⟩ w) :
    (dropS 22 (bodyOf Ybad.f3)).wp Ybad.prog Q ⟨l.toArray, []⟩ w := by
  refine cut _ 22 2 24 rfl ?_
  generalize dropS 24 (bodyOf Ybad.f3) = Y at hK ⊢
  obtain ⟨u, hu⟩ : ∃ u : Nat → Value, ∀ n, l.getD n (.bool false) = u n := ⟨_, fun _ => rfl⟩
  have hlen := hf.len
  simp only [In.fr, mid, Fr, hu] at hf
  obtain ⟨h0, h1, h4, h6, h8, h9, h10, h11, h17, h19, h26, h27, h28, h31, h32, h33, h34, h35, h36, h37, h38, h39, h40, h41, -⟩ := hf
  have HK := Hid.mk hK
  clear hK
  rw [frame_lit l hlen u hu, h0, h1, h4, h6, h8, h9, h10, h11, h17, h19, h26, h27, h28, h31, h32, h33, h34, h35, h36, h37, h38, h39, h40, h41]
  clear hu hlen h0 h1 h4 h6 h8 h9 h10 h11 h17 h19 h26 h27 h28 h31 h32 h33 h34 h35 h36 h37 h38 h39 h40 h41
  clear l
  conv => arg 2; whnf; arg 2; whnf; arg 2; whnf
  have HT := Hid.mk hT
  clear hT
  rcases htg with ⟨rfl, hidx⟩ | ⟨j, hidx, hj, hoj⟩
  · have HI := Hid.mk hidx
    clear hidx
    go_wp2_with (go_at_call 7; refine (index_any kv ks i.r w (by omega) (row_of_owns HT.out.keys)).mono ?_; rw [HI.out]; rintro e w' ⟨rfl, rfl⟩)
    exact HK.out _ ⟨rfl, rfl, rfl, rfl, rfl, rfl, rfl, rfl, rfl, rfl, rfl, rfl, rfl, rfl, rfl, rfl, rfl, rfl, rfl, rfl, rfl, rfl, rfl, rfl, rfl, rfl⟩
  · obtain ⟨b, oc, rfl⟩ : ∃ b oc, ow = .slice (some ⟨b, 0, none⟩) ks.length oc := by
      rcases HT.out.owns.2 with ⟨_, h0⟩ | ⟨b, oc, _, h1, _⟩
      · omega
      · exact ⟨b, oc, h1⟩
    have hc := HT.out.owns.cellAt j (by omega)
    rw [hoj] at hc
    have HI := Hid.mk hidx
    clear hidx hoj
    go_wp2_with (go_at_call 7; refine (index_any kv ks i.r w (by omega) (row_of_owns HT.out.keys)).mono ?_; rw [HI.out]; rintro e w' ⟨rfl, rfl⟩)
    exact HK.out _ ⟨rfl, rfl, rfl, rfl, rfl, rfl, rfl, rfl, rfl, rfl, rfl, rfl, rfl, rfl, rfl, rfl, rfl, rfl, rfl, rfl, rfl, rfl, rfl, rfl, rfl, rfl⟩

theorem node_built (E M : Nat) : ∃ C, Ybad.prog.built 113 [(1, .iface 57 (.pointer (some ⟨E, 0, none⟩))), (34, .map (some M))] = some C ∧ C[23]? = some (.iface 57 (.pointer (some ⟨E, 0, none⟩))) ∧ C[213]? = some (.map (some M)) :=
  ⟨(Ybad.prog.built 113 [(1, .iface 57 (.pointer (some ⟨E, 0, none⟩))), (34, .map (some M))]).getD #[], by kernel_rfl, by kernel_rfl, by kernel_rfl⟩

theorem wpList_built {ops : Array Oper} {rest : List Oper} {o : Oper} {a : Act} {w : World} {Q : Exit → Act → World → Prop} {l : List (Nat × Value)} (hg : o.guard = none) (t : TypeId) (parts : Array (Nat × Operand)) (ho : o.op = .build t parts)
    (hp : (parts.map fun (i, x) => (i, a.eval x)).toList = l) {C : Array Value} (hC : Ybad.prog.built t l = some C)
    (h : wpList Ybad.prog ops Q rest (a.put o.dst (.agg C)) w) : wpList Ybad.prog ops Q (o :: rest) a w := by
  refine wpList_build hg t parts ho ?_ ?_
  · rw [hp, hC]; rfl
  · rw [hp, hC]; exact h

theorem st24 (i : In) (l : List Value) (g : Nat) (la da : Option Addr) (ll lc dl dc : Nat) (kv ow tv : Value) (w : World) (Q : Exit → Act → World → Prop)
    (hf : Fr l (i.fr (mid g la ll lc da dl dc [(40, kv), (41, ow), (46, tv)])))
    (hK : ∀ l' w' C, Fr l' (i.fr (mid g la ll lc da dl dc [(40, kv), (41, ow), (46, tv), (48, .pointer (some ⟨w.heap.size, 0, none⟩)), (49, .pointer (some ⟨w.heap.size + 1, 0, none⟩)), (50, .pointer (some ⟨w.heap.size + 2, 0, none⟩))])) →
      Below w.heap.size w w' → w'.heap.size = w.heap.size + 3 → w'.heap[w.heap.size]? = some (.cells #[.slice none 0 0, .int .i64 0] 60 (0, 0)) → w'.heap[w.heap.size + 1]? = some (.cells C 113 (0, 0)) → C[23]? = some (.iface 57 (.pointer (some ⟨w.heap.size, 0, none⟩))) → C[213]? = some (.map (some (g + 8))) →
      w'.heap[w.heap.size + 2]? = some (.cells #[.int .u64 0, .int .u64 0, .int .u32 0, .int .u64 0, .int .u64 0, .pointer none, .int .u16 0] 41 (0, 0)) → (dropS 27 (bodyOf Ybad.f3)).wp Ybad.prog Q ⟨l'.toArray, []⟩ w') :
    (dropS 24 (bodyOf Ybad.f3)).wp Ybad.prog Q ⟨l.toArray, []⟩ w := by
  obtain ⟨C, hC, c1, c2⟩ := node_built w.heap.size (g + 8)
  have HC := Hid.mk hC
  have C1 := Hid.mk c1
  have C2 := Hid.mk c2
  clear hC c1 c2
  refine cut _ 24 3 27 rfl ?_
  generalize dropS 27 (bodyOf Ybad.f3) = Y at hK ⊢
  obtain ⟨u, hu⟩ : ∃ u : Nat → Value, ∀ n, l.getD n (.bool false) = u n := ⟨_, fun _ => rfl⟩
  have hlen := hf.len
  simp only [In.fr, mid, Fr, hu] at hf
  obtain ⟨h0, h1, h4, h6, h8, h9, h10, h11, h17, h19, h26, h27, h28, h31, h32, h33, h34, h35, h36, h37, h38, h39, h40, h41, h46, -⟩ := hf
  have HK := Hid.mk hK
  clear hK
  rw [frame_lit l hlen u hu, h0, h1, h4, h6, h8, h9, h10, h11, h17, h19, h26, h27, h28, h31, h32, h33, h34, h35, h36, h37, h38, h39, h40, h41, h46]
  clear hu hlen h0 h1 h4 h6 h8 h9 h10 h11 h17 h19 h26 h27 h28 h31 h32 h33 h34 h35 h36 h37 h38 h39 h40 h41 h46
  clear l
  conv => arg 2; whnf; arg 2; whnf; arg 2; whnf; arg 2; whnf
  go_wp2_with (refine wpList_built (l := [(1, .iface 57 (.pointer (some ⟨w.heap.size, 0, none⟩))), (34, .map (some (g + 8)))]) rfl 113 _ rfl (by simp [go_sem]) HC.out ?_)
  refine HK.out _ _ C ⟨rfl, rfl, rfl, rfl, rfl, rfl, rfl, rfl, rfl, rfl, rfl, rfl, rfl, rfl, rfl, rfl, rfl, rfl, rfl, rfl, rfl, rfl, rfl, rfl, rfl, rfl, rfl, rfl, rfl⟩ ?_ ?_ ?_ ?_ C1.out C2.out ?_
  · repeat (refine Below.alloc ?_ (by simp; try omega) _)
    exact Below.refl _ _
  · simp
  · exact hs_alloc (hs_alloc (heap_new' (by simp)) _) _
  · exact hs_alloc (heap_new' (by simp)) _
  · exact heap_new' (by simp)


end Go.Proofs.YbulkdscsDoor
