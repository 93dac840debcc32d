import Derived.Test.YbulkdscsDoorN
namespace Go.Proofs.YbulkdscsDoor
open Go.RowKit
set_option maxRecDepth 100000
set_option maxHeartbeats 2000000

theorem st27 (i : In) (l : List Value) (g : Nat) (la da : Option Addr) (ll lc dl dc : Nat) (kv ow tv ev nv : Value) (ob : Nat) (o0 o1 o2 o3 : Int) (z : Addr) (w : World) (Q : Exit → Act → World → Prop)
    (hf : Fr l (i.fr (mid g la ll lc da dl dc [(40, kv), (41, ow), (46, tv), (48, ev), (49, nv), (50, .pointer (some ⟨ob, 0, none⟩))]))) (h0 : 0 ≤ o0 ∧ o0 ≤ 255) (h1 : 0 ≤ o1 ∧ o1 ≤ 255) (h2 : 0 ≤ o2 ∧ o2 ≤ 255) (h3 : 0 ≤ o3 ∧ o3 ≤ 255) (hz : w.cell? ⟨0, 0, none⟩ = some (.pointer (some z))) (hn : w.heap[i.n0]? = some (.cells #[.int .u8 o0, .int .u8 o1, .int .u8 o2, .int .u8 o3] 25 (0, 0))) (hob : w.heap[ob]? = some (.cells #[.int .u64 0, .int .u64 0, .int .u32 0, .int .u64 0, .int .u64 0, .pointer none, .int .u16 0] 41 (0, 0)))
    (hK : ∀ l' w' v zz pt, Fr l' (i.fr (mid g la ll lc da dl dc [(40, kv), (41, ow), (46, tv), (48, ev), (49, nv), (50, .pointer (some ⟨ob, 0, none⟩))])) → Below ob w w' → w'.heap[ob]? = some (.cells (peer v zz pt) 41 (0, 0)) → (zz = none → v = 0 ∧ pt = 0) → (dropS 28 (bodyOf Ybad.f3)).wp Ybad.prog Q ⟨l'.toArray, []⟩ w') :
    (dropS 27 (bodyOf Ybad.f3)).wp Ybad.prog Q ⟨l.toArray, []⟩ w := by
  have HB := Hid.mk (And.intro h0 (And.intro h1 (And.intro h2 h3)))
  clear h0 h1 h2 h3
  refine cut _ 27 1 28 rfl ?_
  generalize dropS 28 (bodyOf Ybad.f3) = Y at hK ⊢
  obtain ⟨u, hu⟩ : ∃ u : Nat → Value, ∀ n, l.getD n (.bool false) = u n := ⟨_, fun _ => rfl⟩
  have hlen := hf.len
  simp only [In.fr, mid, Fr, hu] at hf
  obtain ⟨h0, h1, h4, h6, h8, h9, h10, h11, h17, h19, h26, h27, h28, h31, h32, h33, h34, h35, h36, h37, h38, h39, h40, h41, h46, h48, h49, h50, -⟩ := hf
  have HK := Hid.mk hK
  clear hK
  rw [frame_lit l hlen u hu, h0, h1, h4, h6, h8, h9, h10, h11, h17, h19, h26, h27, h28, h31, h32, h33, h34, h35, h36, h37, h38, h39, h40, h41, h46, h48, h49, h50]
  clear hu hlen h0 h1 h4 h6 h8 h9 h10 h11 h17 h19 h26 h27 h28 h31 h32 h33 h34 h35 h36 h37 h38 h39 h40 h41 h46 h48 h49 h50
  clear l
  conv => arg 2; whnf; arg 2; whnf
  have HZ := Hid.mk hz
  have HOB := Hid.mk hob
  have c0 : w.cell? ⟨i.n0, 0, none⟩ = some (.int .u8 o0) := cell_blk hn 0
  have c1 : w.cell? ⟨i.n0, 1, none⟩ = some (.int .u8 o1) := cell_blk hn 1
  have c2 : w.cell? ⟨i.n0, 2, none⟩ = some (.int .u8 o2) := cell_blk hn 2
  have c3 : w.cell? ⟨i.n0, 3, none⟩ = some (.int .u8 o3) := cell_blk hn 3
  have zob := (Array.getElem?_eq_some_iff.1 hob).1
  clear hz hob hn
  go_upto_if 187 with fail
  generalize (bits BinOp.and IntKind.u8 i.fl 4 != 0) = b4
  cases b4 with
  | false =>
    go_wp2
    exact HK.out _ _ 0 none 0 ⟨rfl, rfl, rfl, rfl, rfl, rfl, rfl, rfl, rfl, rfl, rfl, rfl, rfl, rfl, rfl, rfl, rfl, rfl, rfl, rfl, rfl, rfl, rfl, rfl, rfl, rfl, rfl, rfl, rfl⟩ (Below.refl _ _) HOB.out (fun _ => ⟨rfl, rfl⟩)
  | true =>
    go_wp2_with (first
      | (go_at_call 9; go_must (refine (from4_any o0 o1 o2 o3 z w HB.out.1.1 HB.out.1.2 HB.out.2.1.1 HB.out.2.1.2 HB.out.2.2.1.1 HB.out.2.2.1.2 HB.out.2.2.2.1 HB.out.2.2.2.2 HZ.out).mono ?_); rintro e w1 ⟨v1, rfl, hb1⟩; have HB1 := Hid.mk hb1; clear hb1)
      | (go_at_call 8; go_must (refine (port_any v1 z i.op w1).mono ?_); rintro e w2 ⟨rfl, hb2⟩; have HB2 := Hid.mk (HB1.out.trans (hb2.mono HB1.out.size)); have HO2 := Hid.mk ((HB2.out.block ob zob).trans HOB.out); have d2 := cell_blk HO2.out; have f2 := free_blk HO2.out; clear hb2))
    refine HK.out _ _ v1 (some z) i.op ⟨rfl, rfl, rfl, rfl, rfl, rfl, rfl, rfl, rfl, rfl, rfl, rfl, rfl, rfl, rfl, rfl, rfl, rfl, rfl, rfl, rfl, rfl, rfl, rfl, rfl, rfl, rfl, rfl, rfl⟩ ?_ ?_ (fun h => by cases h)
    · exact ((((((((HB2.out.mono (Nat.le_of_lt zob)).setCell (p := ⟨ob, 0, none⟩) (Nat.le_refl ob) _).setCell (p := ⟨ob, 1, none⟩) (Nat.le_refl ob) _).setCell (p := ⟨ob, 2, none⟩) (Nat.le_refl ob) _).setCell (p := ⟨ob, 3, none⟩) (Nat.le_refl ob) _).setCell (p := ⟨ob, 4, none⟩) (Nat.le_refl ob) _).setCell (p := ⟨ob, 5, none⟩) (Nat.le_refl ob) _).setCell (p := ⟨ob, 6, none⟩) (Nat.le_refl ob) _)
    · have e2 := hs_same (hs_same (hs_same (hs_same (hs_same (hs_same (hs_same HO2.out 0 (.int .u64 0)) 1 (.int .u64 0)) 2 (.int .u32 0)) 3 (.int .u64 0)) 4 (.int .u64 v1)) 5 (.pointer (some z))) 6 (.int .u16 i.op)
      simp only [List.setIfInBounds_toArray, List.set_cons_zero, List.set_cons_succ] at e2
      exact e2

theorem st28 (i : In) (l : List Value) (g : Nat) (la da : Option Addr) (ll lc dl dc : Nat) (kv ow tv ev nv : Value) (ob : Nat) (o0 o1 o2 o3 : Int) (z : Addr) (w : World) (Q : Exit → Act → World → Prop)
    (hf : Fr l (i.fr (mid g la ll lc da dl dc [(40, kv), (41, ow), (46, tv), (48, ev), (49, nv), (50, .pointer (some ⟨ob, 0, none⟩))]))) (h0 : 0 ≤ o0 ∧ o0 ≤ 255) (h1 : 0 ≤ o1 ∧ o1 ≤ 255) (h2 : 0 ≤ o2 ∧ o2 ≤ 255) (h3 : 0 ≤ o3 ∧ o3 ≤ 255) (hz : w.cell? ⟨0, 0, none⟩ = some (.pointer (some z))) (hn : w.heap[i.n0 + 1]? = some (.cells #[.int .u8 o0, .int .u8 o1, .int .u8 o2, .int .u8 o3] 25 (0, 0)))
    (hK : ∀ l' w' va ab, Fr l' (i.fr (mid g la ll lc da dl dc [(40, kv), (41, ow), (46, tv), (48, ev), (49, nv), (50, .pointer (some ⟨ob, 0, none⟩)), (51, .pointer (some ⟨ab, 0, none⟩))])) → Below w.heap.size w w' → w.heap.size ≤ ab → w'.heap[ab]? = some (.cells #[.int .u64 0, .int .u64 va, .pointer (some z), .int .u16 i.ap] 39 (0, 0)) → (dropS 29 (bodyOf Ybad.f3)).wp Ybad.prog Q ⟨l'.toArray, []⟩ w') :
    (dropS 28 (bodyOf Ybad.f3)).wp Ybad.prog Q ⟨l.toArray, []⟩ w := by
  have HB := Hid.mk (And.intro h0 (And.intro h1 (And.intro h2 h3)))
  clear h0 h1 h2 h3
  refine cut _ 28 1 29 rfl ?_
  generalize dropS 29 (bodyOf Ybad.f3) = Y at hK ⊢
  obtain ⟨u, hu⟩ : ∃ u : Nat → Value, ∀ n, l.getD n (.bool false) = u n := ⟨_, fun _ => rfl⟩
  have hlen := hf.len
  simp only [In.fr, mid, Fr, hu] at hf
  obtain ⟨h0, h1, h4, h6, h8, h9, h10, h11, h17, h19, h26, h27, h28, h31, h32, h33, h34, h35, h36, h37, h38, h39, h40, h41, h46, h48, h49, h50, -⟩ := hf
  have HK := Hid.mk hK
  clear hK
  rw [frame_lit l hlen u hu, h0, h1, h4, h6, h8, h9, h10, h11, h17, h19, h26, h27, h28, h31, h32, h33, h34, h35, h36, h37, h38, h39, h40, h41, h46, h48, h49, h50]
  clear hu hlen h0 h1 h4 h6 h8 h9 h10 h11 h17 h19 h26 h27 h28 h31 h32 h33 h34 h35 h36 h37 h38 h39 h40 h41 h46 h48 h49 h50
  clear l
  conv => arg 2; whnf; arg 2; whnf
  have HZ := Hid.mk hz
  have c0 : w.cell? ⟨i.n0 + 1, 0, none⟩ = some (.int .u8 o0) := cell_blk hn 0
  have c1 : w.cell? ⟨i.n0 + 1, 1, none⟩ = some (.int .u8 o1) := cell_blk hn 1
  have c2 : w.cell? ⟨i.n0 + 1, 2, none⟩ = some (.int .u8 o2) := cell_blk hn 2
  have c3 : w.cell? ⟨i.n0 + 1, 3, none⟩ = some (.int .u8 o3) := cell_blk hn 3
  clear hz hn
  go_wp2_with (first
      | (go_at_call 9; go_must (refine (from4_any o0 o1 o2 o3 z w HB.out.1.1 HB.out.1.2 HB.out.2.1.1 HB.out.2.1.2 HB.out.2.2.1.1 HB.out.2.2.1.2 HB.out.2.2.2.1 HB.out.2.2.2.2 HZ.out).mono ?_); rintro e w1 ⟨v1, rfl, hb1⟩; have HB1 := Hid.mk hb1; clear hb1)
      | (go_at_call 8; go_must (refine (port_any v1 z i.ap w1).mono ?_); rintro e w2 ⟨rfl, hb2⟩; have HB2 := Hid.mk (HB1.out.trans (hb2.mono HB1.out.size)); clear hb2))
  exact HK.out _ _ v1 w2.heap.size ⟨rfl, rfl, rfl, rfl, rfl, rfl, rfl, rfl, rfl, rfl, rfl, rfl, rfl, rfl, rfl, rfl, rfl, rfl, rfl, rfl, rfl, rfl, rfl, rfl, rfl, rfl, rfl, rfl, rfl, rfl⟩ (HB2.out.alloc HB2.out.size _) HB2.out.size (heap_new _ _)


end Go.Proofs.YbulkdscsDoor
