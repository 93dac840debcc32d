import Derived.Test.YbulkdscsDoorV
namespace Go.Proofs.YbulkdscsDoor
open Go.RowKit
set_option maxRecDepth 100000
set_option maxHeartbeats 2000000

theorem stA (l : List Value) (r fl : Int) (ra ea sa : Option Addr) (rl rc el ec sl sc : Nat) (wait : Int) (o0 o1 o2 o3 op a0 a1 a2 a3 ap : Int) (tx : ByteArray) (np : Int) (w : World) (rs : List Int) (Q : Exit → Act → World → Prop)
    (hf : Fr l [(0, .int .u32 r), (1, .int .u8 fl), (2, .slice ra rl rc), (3, .slice ea el ec), (4, .int .u64 wait), (5, .agg #[.int .u8 o0, .int .u8 o1, .int .u8 o2, .int .u8 o3]), (6, .int .u16 op), (7, .agg #[.int .u8 a0, .int .u8 a1, .int .u8 a2, .int .u8 a3]), (8, .int .u16 ap), (9, .string tx), (10, .slice sa sl sc), (11, .int .u8 np)]) (hlong1 : ¬ (rl : Int) + el > 4096) (hlong2 : ¬ (sl : Int) > 65536) (hR : RowIs .u32 w (.slice ra rl rc) rs)
    (hK : ∀ l' w' lv, Fr l' ((⟨r, fl, wait, op, ap, np, sa, sl, sc, tx, w.heap.size, bits .and .u8 fl 2 != 0⟩ : In).fr [(3, .slice ea el ec), (25, .bool (bits .and .u8 fl 1 != 0)), (27, lv)]) → w'.ownsRow (w.heap.size + 2) 22 1 lv rs.length (rs.map (.int .u32 ·)) → Below w.heap.size w w' → w.heap.size + 2 ≤ w'.heap.size →
      w'.heap[w.heap.size]? = some (.cells #[.int .u8 o0, .int .u8 o1, .int .u8 o2, .int .u8 o3] 25 (0, 0)) → w'.heap[w.heap.size + 1]? = some (.cells #[.int .u8 a0, .int .u8 a1, .int .u8 a2, .int .u8 a3] 25 (0, 0)) → (dropS 6 (bodyOf Ybad.f3)).wp Ybad.prog Q ⟨l'.toArray, []⟩ w') :
    (dropS 0 (bodyOf Ybad.f3)).wp Ybad.prog Q ⟨l.toArray, []⟩ w := by
  refine cut _ 0 6 6 rfl ?_
  generalize dropS 6 (bodyOf Ybad.f3) = Y at hK ⊢
  obtain ⟨u, hu⟩ : ∃ u : Nat → Value, ∀ n, l.getD n (.bool false) = u n := ⟨_, fun _ => rfl⟩
  have hlen := hf.len
  simp only [Fr, hu] at hf
  obtain ⟨h0, h1, h2, h3, h4, h5, h6, h7, h8, h9, h10, h11, -⟩ := hf
  have HK := Hid.mk hK
  clear hK
  rw [frame_lit l hlen u hu, h0, h1, h2, h3, h4, h5, h6, h7, h8, h9, h10, h11]
  clear hu hlen h0 h1 h2 h3 h4 h5 h6 h7 h8 h9 h10 h11
  clear l
  conv => arg 2; whnf; arg 2; whnf; arg 2; whnf; arg 2; whnf; arg 2; whnf; arg 2; whnf; arg 2; whnf
  have hrl := RowIs.len hR
  subst hrl
  have HR := Hid.mk hR
  clear hR
  obtain ⟨i0, hi, hz0, hz1, hz2⟩ := info_parts Ybad.info22
  go_upto_if 78 with fail
  generalize hwa : (w.alloc (.cells #[.int .u8 o0, .int .u8 o1, .int .u8 o2, .int .u8 o3] 25)).alloc (.cells #[.int .u8 a0, .int .u8 a1, .int .u8 a2, .int .u8 a3] 25) = wa
  have hBa : Below w.heap.size w wa := hwa ▸ below_box2 w _ _
  have hb0 : wa.heap[w.heap.size]? = some (.cells #[.int .u8 o0, .int .u8 o1, .int .u8 o2, .int .u8 o3] 25 (0, 0)) := hwa ▸ hs_alloc (heap_new w _) _
  have hb1 : wa.heap[w.heap.size + 1]? = some (.cells #[.int .u8 a0, .int .u8 a1, .int .u8 a2, .int .u8 a3] 25 (0, 0)) := hwa ▸ heap_new' (by simp)
  have hsa : wa.heap.size = w.heap.size + 2 := by rw [← hwa]; simp
  obtain ⟨wm, hmk, hown, hgm⟩ := run_makeSlice_owned (P := Ybad.prog) (w := wa) (w.heap.size + 2) 23 22 i0 _ 1 Ybad.underlying23 hi hz0 hz1 .i64 .i64 (rs.length + 1) (by omega) (by rw [hz2]; omega) (by simp only [maxLen]; omega) (by omega)
  have hBm : Below w.heap.size w wm := hBa.grown hgm (by omega) (by simp)
  have hBm2 : Below (w.heap.size + 2) wa wm := (Below.refl _ _).grown hgm (by omega) (by simp)
  have HRm := Hid.mk (HR.out.below hBm)
  have HBm := Hid.mk hBm
  have HBm2 := Hid.mk hBm2
  have HB0 := Hid.mk hb0
  have HB1 := Hid.mk hb1
  have hsm : w.heap.size + 2 ≤ wm.heap.size := by have := hgm.size; omega
  rw [Int.natCast_add, Int.natCast_one, hsa] at hmk
  rw [hsa] at hown
  have HOwn := Hid.mk hown
  have HWA := Hid.mk hwa
  clear hwa hBa hown hgm hBm hBm2 hb0 hb1 hi hz0 hz1 hz2
  go_wp2_with (at_builtin; go_must (refine wpList_append_row rfl _ _ rfl (w.heap.size + 2) _ 0 [] rfl HOwn.out _ rs rfl HRm.out (by omega) hsm ?_); intro v1 w1 ho1 hg1; have HO1 := Hid.mk ho1; have HG1 := Hid.mk hg1; clear ho1 hg1)
  have hg1 := HG1.out
  have hB1 : Below w.heap.size w w1 := HBm.out.grown hg1 (by omega) (fun k hk => by have := (HOwn.out.lt k hk).1; omega)
  have hB2 : Below (w.heap.size + 2) wa w1 := HBm2.out.grown hg1 (by omega) (fun k hk => by have := (HOwn.out.lt k hk).1; omega)
  refine HK.out _ _ v1 ⟨rfl, rfl, rfl, rfl, rfl, rfl, rfl, rfl, rfl, rfl, rfl, rfl, rfl, rfl, rfl⟩ (by simpa using HO1.out) hB1 (by have := hg1.size; omega) ((hB2.block _ (by omega)).trans HB0.out) ((hB2.block _ (by omega)).trans HB1.out)


end Go.Proofs.YbulkdscsDoor
