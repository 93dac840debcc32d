import Derived.Test.YbulkdscsDoorU
namespace Go.Proofs.YbulkdscsDoor
open Go.RowKit
set_option maxRecDepth 100000
set_option maxHeartbeats 2000000

theorem eql42_nil (w : World) : (binOp .eql 42 (.slice none 0 0) (.slice none 0 0)).run Ybad.prog w = .ok (.bool true) w := by kernel_rfl
theorem eql42_some (a : Addr) (n c : Nat) (w : World) : (binOp .eql 42 (.slice (some a) n c) (.slice none 0 0)).run Ybad.prog w = .ok (.bool false) w := by kernel_rfl
theorem eql43_nil (w : World) : (binOp .eql 43 (.slice none 0 0) (.slice none 0 0)).run Ybad.prog w = .ok (.bool true) w := by kernel_rfl
theorem eql43_some (a : Addr) (n c : Nat) (w : World) : (binOp .eql 43 (.slice (some a) n c) (.slice none 0 0)).run Ybad.prog w = .ok (.bool false) w := by kernel_rfl

theorem st44 (i : In) (l : List Value) (g : Nat) (la da : Option Addr) (ll lc dl dc : Nat) (kv ow tv ev nv sv pv : Value) (ob ab : Nat) (m : List (Int × Value)) (c : Nat) (v : Int) (zz : Option Addr) (pt : Int) (w : World) (Q : Exit → Act → World → Prop)
    (hf : Fr l (i.fr (mid g la ll lc da dl dc [(40, kv), (41, ow), (46, tv), (48, ev), (49, nv), (50, .pointer (some ⟨ob, 0, none⟩)), (51, .pointer (some ⟨ab, 0, none⟩)), (52, sv), (55, pv), (61, .int .i64 c)]))) (hM : MapIs w (g + 8) m) (hc : m.length = c) (hob : w.heap[ob]? = some (.cells (peer v zz pt) 41 (0, 0))) (hgo : w.heap[g + 2]? = some (.cells (peer v zz pt) 41 (0, 0))) (hzz : zz = none → v = 0 ∧ pt = 0)
    (hK : ∀ l', Fr l' (i.fr (mid g la ll lc da dl dc [(40, kv), (41, ow), (46, tv), (48, ev), (49, nv), (50, .pointer (some ⟨ob, 0, none⟩)), (51, .pointer (some ⟨ab, 0, none⟩)), (52, sv), (55, pv)])) → (dropS 46 (bodyOf Ybad.f3)).wp Ybad.prog Q ⟨l'.toArray, []⟩ w) :
    (dropS 44 (bodyOf Ybad.f3)).wp Ybad.prog Q ⟨l.toArray, []⟩ w := by
  subst hc
  have hlm := run_len_map hM
  have hne : ∀ w, (binOp .neq 41 (.agg #[.int .u64 0, .int .u64 0, .int .u32 0, .int .u64 0, .int .u64 v, .pointer zz, .int .u16 pt]) (.agg #[.int .u64 0, .int .u64 0, .int .u32 0, .int .u64 0, .int .u64 v, .pointer zz, .int .u16 pt])).run Ybad.prog w = .ok (.bool false) w := by
    cases zz with
    | none => obtain ⟨rfl, rfl⟩ := hzz rfl; exact neq41_none
    | some z => exact neq41_some v z pt
  clear hM hzz
  refine cut _ 44 2 46 rfl ?_
  generalize dropS 46 (bodyOf Ybad.f3) = Y at hK ⊢
  obtain ⟨u, hu⟩ : ∃ u : Nat → Value, ∀ n, l.getD n (.bool false) = u n := ⟨_, fun _ => rfl⟩
  have hlen := hf.len
  simp only [In.fr, mid, Fr, hu] at hf
  obtain ⟨h0, h1, h4, h6, h8, h9, h10, h11, h17, h19, h26, h27, h28, h31, h32, h33, h34, h35, h36, h37, h38, h39, h40, h41, h46, h48, h49, h50, h51, h52, h55, h61, -⟩ := hf
  have HK := Hid.mk hK
  clear hK
  rw [frame_lit l hlen u hu, h0, h1, h4, h6, h8, h9, h10, h11, h17, h19, h26, h27, h28, h31, h32, h33, h34, h35, h36, h37, h38, h39, h40, h41, h46, h48, h49, h50, h51, h52, h55, h61]
  clear hu hlen h0 h1 h4 h6 h8 h9 h10 h11 h17 h19 h26 h27 h28 h31 h32 h33 h34 h35 h36 h37 h38 h39 h40 h41 h46 h48 h49 h50 h51 h52 h55 h61
  clear l
  conv => arg 2; whnf; arg 2; whnf; arg 2; whnf
  have c0 : w.cell? ⟨ob, 0, none⟩ = some (.int .u64 0) := cell_blk hob 0
  have c1 : w.cell? ⟨ob, 1, none⟩ = some (.int .u64 0) := cell_blk hob 1
  have c2 : w.cell? ⟨ob, 2, none⟩ = some (.int .u32 0) := cell_blk hob 2
  have c3 : w.cell? ⟨ob, 3, none⟩ = some (.int .u64 0) := cell_blk hob 3
  have c4 : w.cell? ⟨ob, 4, none⟩ = some (.int .u64 v) := cell_blk hob 4
  have c5 : w.cell? ⟨ob, 5, none⟩ = some (.pointer zz) := cell_blk hob 5
  have c6 : w.cell? ⟨ob, 6, none⟩ = some (.int .u16 pt) := cell_blk hob 6
  have d0 : w.cell? ⟨g + 2, 0, none⟩ = some (.int .u64 0) := cell_blk hgo 0
  have d1 : w.cell? ⟨g + 2, 1, none⟩ = some (.int .u64 0) := cell_blk hgo 1
  have d2 : w.cell? ⟨g + 2, 2, none⟩ = some (.int .u32 0) := cell_blk hgo 2
  have d3 : w.cell? ⟨g + 2, 3, none⟩ = some (.int .u64 0) := cell_blk hgo 3
  have d4 : w.cell? ⟨g + 2, 4, none⟩ = some (.int .u64 v) := cell_blk hgo 4
  have d5 : w.cell? ⟨g + 2, 5, none⟩ = some (.pointer zz) := cell_blk hgo 5
  have d6 : w.cell? ⟨g + 2, 6, none⟩ = some (.int .u16 pt) := cell_blk hgo 6
  clear hob hgo
  go_wp2
  exact HK.out _ ⟨rfl, rfl, rfl, rfl, rfl, rfl, rfl, rfl, rfl, rfl, rfl, rfl, rfl, rfl, rfl, rfl, rfl, rfl, rfl, rfl, rfl, rfl, rfl, rfl, rfl, rfl, rfl, rfl, rfl, rfl, rfl, rfl⟩

theorem st46 (i : In) (l : List Value) (g : Nat) (la da : Option Addr) (ll lc dl dc : Nat) (kv ow tv ev nv sv pv : Value) (ob ab B : Nat) (w : World) (Q : Exit → Act → World → Prop)
    (hf : Fr l (i.fr (mid g la ll lc da dl dc [(40, kv), (41, ow), (46, tv), (48, ev), (49, nv), (50, .pointer (some ⟨ob, 0, none⟩)), (51, .pointer (some ⟨ab, 0, none⟩)), (52, sv), (55, pv)]))) (hS : SuccsIs B w sv) (hg : w.cell? ⟨g + 3, 0, none⟩ = some sv)
    (hK : ∀ l' w', Fr l' (i.fr (mid g la ll lc da dl dc [(40, kv), (41, ow), (46, tv), (48, ev), (49, nv), (50, .pointer (some ⟨ob, 0, none⟩)), (51, .pointer (some ⟨ab, 0, none⟩)), (52, sv), (55, pv)])) → Below w.heap.size w w' → (dropS 47 (bodyOf Ybad.f3)).wp Ybad.prog Q ⟨l'.toArray, []⟩ w') :
    (dropS 46 (bodyOf Ybad.f3)).wp Ybad.prog Q ⟨l.toArray, []⟩ w := by
  refine cut _ 46 1 47 rfl ?_
  generalize dropS 47 (bodyOf Ybad.f3) = Y at hK ⊢
  obtain ⟨u, hu⟩ : ∃ u : Nat → Value, ∀ n, l.getD n (.bool false) = u n := ⟨_, fun _ => rfl⟩
  have hlen := hf.len
  simp only [In.fr, mid, Fr, hu] at hf
  obtain ⟨h0, h1, h4, h6, h8, h9, h10, h11, h17, h19, h26, h27, h28, h31, h32, h33, h34, h35, h36, h37, h38, h39, h40, h41, h46, h48, h49, h50, h51, h52, h55, -⟩ := hf
  have HK := Hid.mk hK
  clear hK
  rw [frame_lit l hlen u hu, h0, h1, h4, h6, h8, h9, h10, h11, h17, h19, h26, h27, h28, h31, h32, h33, h34, h35, h36, h37, h38, h39, h40, h41, h46, h48, h49, h50, h51, h52, h55]
  clear hu hlen h0 h1 h4 h6 h8 h9 h10 h11 h17 h19 h26 h27 h28 h31 h32 h33 h34 h35 h36 h37 h38 h39 h40 h41 h46 h48 h49 h50 h51 h52 h55
  clear l
  conv => arg 2; whnf; arg 2; whnf
  rcases hS with rfl | ⟨b, n, c, rfl, h1, _, _, h2⟩
  · have hn := eql42_nil
    go_wp2_with (go_at_call 11; go_must (refine (eqp_empty none 0 w).mono ?_); rintro e w' ⟨rfl, q, rfl⟩)
    exact HK.out _ _ ⟨rfl, rfl, rfl, rfl, rfl, rfl, rfl, rfl, rfl, rfl, rfl, rfl, rfl, rfl, rfl, rfl, rfl, rfl, rfl, rfl, rfl, rfl, rfl, rfl, rfl, rfl, rfl, rfl, rfl, rfl, rfl, rfl⟩ (Below.drewN' (Below.refl _ _) _)
  · have H2 := Hid.mk h2
    clear h2
    have hn := eql42_some ⟨b, 0, none⟩ n c
    go_wp2_with (go_at_call 11; go_must (refine (eqp_same b n c w h1 H2.out).mono ?_); rintro e w' ⟨rfl, q, rfl⟩)
    exact HK.out _ _ ⟨rfl, rfl, rfl, rfl, rfl, rfl, rfl, rfl, rfl, rfl, rfl, rfl, rfl, rfl, rfl, rfl, rfl, rfl, rfl, rfl, rfl, rfl, rfl, rfl, rfl, rfl, rfl, rfl, rfl, rfl, rfl, rfl⟩ (Below.drewN' (Below.refl _ _) _)

theorem st47 (i : In) (l : List Value) (g : Nat) (la da : Option Addr) (ll lc dl dc : Nat) (kv ow tv ev nv sv pv : Value) (ob ab B : Nat) (w : World) (Q : Exit → Act → World → Prop)
    (hf : Fr l (i.fr (mid g la ll lc da dl dc [(40, kv), (41, ow), (46, tv), (48, ev), (49, nv), (50, .pointer (some ⟨ob, 0, none⟩)), (51, .pointer (some ⟨ab, 0, none⟩)), (52, sv), (55, pv)]))) (hS : PathIs B w pv) (hg : w.cell? ⟨g + 4, 0, none⟩ = some pv)
    (hK : ∀ l' w', Fr l' (i.fr (mid g la ll lc da dl dc [(40, kv), (41, ow), (46, tv), (48, ev), (49, nv), (50, .pointer (some ⟨ob, 0, none⟩)), (51, .pointer (some ⟨ab, 0, none⟩)), (52, sv), (55, pv)])) → Below w.heap.size w w' → (dropS 48 (bodyOf Ybad.f3)).wp Ybad.prog Q ⟨l'.toArray, []⟩ w') :
    (dropS 47 (bodyOf Ybad.f3)).wp Ybad.prog Q ⟨l.toArray, []⟩ w := by
  refine cut _ 47 1 48 rfl ?_
  generalize dropS 48 (bodyOf Ybad.f3) = Y at hK ⊢
  obtain ⟨u, hu⟩ : ∃ u : Nat → Value, ∀ n, l.getD n (.bool false) = u n := ⟨_, fun _ => rfl⟩
  have hlen := hf.len
  simp only [In.fr, mid, Fr, hu] at hf
  obtain ⟨h0, h1, h4, h6, h8, h9, h10, h11, h17, h19, h26, h27, h28, h31, h32, h33, h34, h35, h36, h37, h38, h39, h40, h41, h46, h48, h49, h50, h51, h52, h55, -⟩ := hf
  have HK := Hid.mk hK
  clear hK
  rw [frame_lit l hlen u hu, h0, h1, h4, h6, h8, h9, h10, h11, h17, h19, h26, h27, h28, h31, h32, h33, h34, h35, h36, h37, h38, h39, h40, h41, h46, h48, h49, h50, h51, h52, h55]
  clear hu hlen h0 h1 h4 h6 h8 h9 h10 h11 h17 h19 h26 h27 h28 h31 h32 h33 h34 h35 h36 h37 h38 h39 h40 h41 h46 h48 h49 h50 h51 h52 h55
  clear l
  conv => arg 2; whnf; arg 2; whnf
  rcases hS with rfl | ⟨b, n, c, rfl, h1, _, _, h2⟩
  · have hn := eql43_nil
    go_wp2_with (go_at_call 12; go_must (refine (eqi_empty none 0 w).mono ?_); rintro e w' ⟨rfl, q, rfl⟩)
    exact HK.out _ _ ⟨rfl, rfl, rfl, rfl, rfl, rfl, rfl, rfl, rfl, rfl, rfl, rfl, rfl, rfl, rfl, rfl, rfl, rfl, rfl, rfl, rfl, rfl, rfl, rfl, rfl, rfl, rfl, rfl, rfl, rfl, rfl, rfl⟩ (Below.drewN' (Below.refl _ _) _)
  · have H2 := Hid.mk h2
    clear h2
    have hn := eql43_some ⟨b, 0, none⟩ n c
    go_wp2_with (go_at_call 12; go_must (refine (eqi_same b n c w h1 H2.out).mono ?_); rintro e w' ⟨rfl, q, rfl⟩)
    exact HK.out _ _ ⟨rfl, rfl, rfl, rfl, rfl, rfl, rfl, rfl, rfl, rfl, rfl, rfl, rfl, rfl, rfl, rfl, rfl, rfl, rfl, rfl, rfl, rfl, rfl, rfl, rfl, rfl, rfl, rfl, rfl, rfl, rfl, rfl⟩ (Below.drewN' (Below.refl _ _) _)

theorem assert_remote (x : Nat) (w : World) : (Instr.typeAssert (.iface 122 (.pointer (some ⟨x, 0, none⟩))) 45 122 true).run Ybad.prog w = .ok (.tuple #[.pointer (some ⟨x, 0, none⟩), .bool true]) w := by kernel_rfl

theorem st48 (i : In) (l : List Value) (g : Nat) (la da : Option Addr) (ll lc dl dc : Nat) (kv ow tv ev nv sv pv : Value) (ob ab : Nat) (v : Int) (zz : Option Addr) (pt : Int) (va : Int) (za : Addr) (e : Value) (w : World) (Q : Exit → Act → World → Prop)
    (hf : Fr l (i.fr (mid g la ll lc da dl dc [(40, kv), (41, ow), (46, tv), (48, ev), (49, nv), (50, .pointer (some ⟨ob, 0, none⟩)), (51, .pointer (some ⟨ab, 0, none⟩)), (52, sv), (55, pv)]))) (hob : w.heap[ob]? = some (.cells (peer v zz pt) 41 (0, 0))) (hzz : zz = none → v = 0 ∧ pt = 0) (hab : w.heap[ab]? = some (.cells #[.int .u64 0, .int .u64 va, .pointer (some za), .int .u16 i.ap] 39 (0, 0))) (hg : w.cell? ⟨g + 5, 0, none⟩ = some e)
    (he : (e = .nilIface ∧ zz ≠ none) ∨ (zz = none ∧ ∃ x, e = .iface 122 (.pointer (some ⟨x, 0, none⟩)) ∧ w.heap[x]? = some (.cells #[.int .u64 0, .int .u64 va, .pointer (some za), .int .u16 i.ap, .string i.tx] 125 (0, 0))))
    (hQ : ∀ l' w', Fr l' [(24, .bool true)] → Below w.heap.size w w' → Q .ret ⟨l'.toArray, []⟩ w') :
    (dropS 48 (bodyOf Ybad.f3)).wp Ybad.prog Q ⟨l.toArray, []⟩ w := by
  obtain ⟨u, hu⟩ : ∃ u : Nat → Value, ∀ n, l.getD n (.bool false) = u n := ⟨_, fun _ => rfl⟩
  have hlen := hf.len
  simp only [In.fr, mid, Fr, hu] at hf
  obtain ⟨h0, h1, h4, h6, h8, h9, h10, h11, h17, h19, h26, h27, h28, h31, h32, h33, h34, h35, h36, h37, h38, h39, h40, h41, h46, h48, h49, h50, h51, h52, h55, -⟩ := hf
  have HQ := Hid.mk hQ
  clear hQ
  rw [frame_lit l hlen u hu, h0, h1, h4, h6, h8, h9, h10, h11, h17, h19, h26, h27, h28, h31, h32, h33, h34, h35, h36, h37, h38, h39, h40, h41, h46, h48, h49, h50, h51, h52, h55]
  clear hu hlen h0 h1 h4 h6 h8 h9 h10 h11 h17 h19 h26 h27 h28 h31 h32 h33 h34 h35 h36 h37 h38 h39 h40 h41 h46 h48 h49 h50 h51 h52 h55
  clear l
  conv => arg 2; whnf
  have c0 : w.cell? ⟨ob, 0, none⟩ = some (.int .u64 0) := cell_blk hob 0
  have c1 : w.cell? ⟨ob, 1, none⟩ = some (.int .u64 0) := cell_blk hob 1
  have c2 : w.cell? ⟨ob, 2, none⟩ = some (.int .u32 0) := cell_blk hob 2
  have c3 : w.cell? ⟨ob, 3, none⟩ = some (.int .u64 0) := cell_blk hob 3
  have c4 : w.cell? ⟨ob, 4, none⟩ = some (.int .u64 v) := cell_blk hob 4
  have c5 : w.cell? ⟨ob, 5, none⟩ = some (.pointer zz) := cell_blk hob 5
  have c6 : w.cell? ⟨ob, 6, none⟩ = some (.int .u16 pt) := cell_blk hob 6
  have a0 : w.cell? ⟨ab, 0, none⟩ = some (.int .u64 0) := cell_blk hab 0
  have a1 : w.cell? ⟨ab, 1, none⟩ = some (.int .u64 va) := cell_blk hab 1
  have a2 : w.cell? ⟨ab, 2, none⟩ = some (.pointer (some za)) := cell_blk hab 2
  have a3 : w.cell? ⟨ab, 3, none⟩ = some (.int .u16 i.ap) := cell_blk hab 3
  clear hob hab
  obtain ⟨r, fl, wait, op, ap, np, sa, sl, sc, tx, n0, ov⟩ := i
  rcases he with ⟨rfl, hz⟩ | ⟨rfl, x, rfl, hx⟩
  · cases zz with
    | none => exact absurd rfl hz
    | some z =>
      have hq := eql41_no v z pt
      unfold peer at hq
      clear hzz hz
      go_wp2
      exact HQ.out _ _ ⟨rfl, rfl⟩ (Below.refl _ _)
  · obtain ⟨rfl, rfl⟩ := hzz rfl
    have hq := eql41_yes
    unfold peer at hq
    have e0 : w.cell? ⟨x, 0, none⟩ = some (.int .u64 0) := cell_blk hx 0
    have e1 : w.cell? ⟨x, 1, none⟩ = some (.int .u64 va) := cell_blk hx 1
    have e2 : w.cell? ⟨x, 2, none⟩ = some (.pointer (some za)) := cell_blk hx 2
    have e3 : w.cell? ⟨x, 3, none⟩ = some (.int .u16 ap) := cell_blk hx 3
    have e4 : w.cell? ⟨x, 4, none⟩ = some (.string tx) := cell_blk hx 4
    have hn := neq39_same va za ap
    have hta := assert_remote x
    clear hzz hx
    go_wp2
    go_quiet (fail)
    go_wp2
    exact HQ.out _ _ ⟨rfl, rfl⟩ (Below.drewN' (Below.refl _ _) _)


end Go.Proofs.YbulkdscsDoor
