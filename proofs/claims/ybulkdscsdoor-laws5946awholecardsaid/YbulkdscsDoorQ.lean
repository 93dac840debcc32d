import Derived.Test.YbulkdscsDoorP
namespace Go.Proofs.YbulkdscsDoor
open Go.RowKit
set_option maxRecDepth 100000
set_option maxHeartbeats 2000000

/-- The path that the law builds. -/
def PathIs (B : Nat) (w : World) (pv : Value) : Prop :=
  pv = .slice none 0 0 ∨ ∃ b n c, pv = .slice (some ⟨b, 0, none⟩) n c ∧ n ≤ 65536 ∧ B ≤ b ∧ b < w.heap.size ∧ ∀ j, j < n → w.rangeAt b (j * 3) [.int .u64 0, .int .u64 0, .int .u32 0]

theorem made_at (z : Array Value) (n t : Nat) (h : t < n) : (madeCells z n)[t]? = some (z[t % z.size]!) := by
  simp [madeCells, h]

theorem st31 (i : In) (l : List Value) (g : Nat) (la da : Option Addr) (ll lc dl dc : Nat) (kv ow tv ev nv av sv : Value) (ob : Nat) (n : Nat) (w : World) (Q : Exit → Act → World → Prop)
    (hf : Fr l (i.fr (mid g la ll lc da dl dc [(40, kv), (41, ow), (46, tv), (48, ev), (49, nv), (50, .pointer (some ⟨ob, 0, none⟩)), (51, av), (52, sv)]))) (hn : i.np = n) (hn' : n ≤ 255)
    (hK : ∀ l' w' pv, Fr l' (i.fr (mid g la ll lc da dl dc [(40, kv), (41, ow), (46, tv), (48, ev), (49, nv), (50, .pointer (some ⟨ob, 0, none⟩)), (51, av), (52, sv), (55, pv)])) → Below w.heap.size w w' → PathIs w.heap.size w' pv → (dropS 33 (bodyOf Ybad.f3)).wp Ybad.prog Q ⟨l'.toArray, []⟩ w') :
    (dropS 31 (bodyOf Ybad.f3)).wp Ybad.prog Q ⟨l.toArray, []⟩ w := by
  obtain ⟨r, fl, wait, op, ap, np, sa, sl, sc, tx, n0, ov⟩ := i
  simp only at hn
  subst hn
  refine cut _ 31 2 33 rfl ?_
  generalize dropS 33 (bodyOf Ybad.f3) = Y at hK ⊢
  obtain ⟨u, hu⟩ : ∃ u : Nat → Value, ∀ n, l.getD n (.bool false) = u n := ⟨_, fun _ => rfl⟩
  have hlen := hf.len
  simp only [In.fr, mid, Fr, hu] at hf
  obtain ⟨h0, h1, h4, h6, h8, h9, h10, h11, h17, h19, h26, h27, h28, h31, h32, h33, h34, h35, h36, h37, h38, h39, h40, h41, h46, h48, h49, h50, h51, h52, -⟩ := hf
  have HK := Hid.mk hK
  clear hK
  rw [frame_lit l hlen u hu, h0, h1, h4, h6, h8, h9, h10, h11, h17, h19, h26, h27, h28, h31, h32, h33, h34, h35, h36, h37, h38, h39, h40, h41, h46, h48, h49, h50, h51, h52]
  clear hu hlen h0 h1 h4 h6 h8 h9 h10 h11 h17 h19 h26 h27 h28 h31 h32 h33 h34 h35 h36 h37 h38 h39 h40 h41 h46 h48 h49 h50 h51 h52
  clear l
  conv => arg 2; whnf; arg 2; whnf; arg 2; whnf
  by_cases h0 : n = 0
  · subst h0
    go_wp2
    exact HK.out _ _ (.slice none 0 0) ⟨rfl, rfl, rfl, rfl, rfl, rfl, rfl, rfl, rfl, rfl, rfl, rfl, rfl, rfl, rfl, rfl, rfl, rfl, rfl, rfl, rfl, rfl, rfl, rfl, rfl, rfl, rfl, rfl, rfl, rfl, rfl, rfl⟩ (Below.refl _ _) (.inl rfl)
  · have h1 : 0 < n := by omega
    obtain ⟨i0, hi, hz0, hz1, hz2⟩ := info30
    have hbb : (i0.bytes : Int) * (n : Int) ≤ 281474976710656 := by
      have h1 := Nat.mul_le_mul hz2 hn'
      have h : ((i0.bytes * n : Nat) : Int) ≤ 281474976710656 := by omega
      rwa [Int.natCast_mul] at h
    have hmk := run_make (P := Ybad.prog) w 43 30 i0 _ Ybad.underlying43 hi hz0 .i64 .i64 n n (by omega) (by omega) hbb (by omega)
    simp only [Int.toNat_natCast, hz1] at hmk
    generalize hA0 : madeCells (Value.agg #[.int .u64 0, .int .u64 0, .int .u32 0]).cells (n * 3) = A0 at hmk
    have hA : ∀ j, j < n → ∀ t x, ([.int .u64 0, .int .u64 0, .int .u32 0] : List Value)[t]? = some x → A0[j * 3 + t]? = some x := by
      intro j hj t x hx
      have ht : t < 3 := by
        have := (List.getElem?_eq_some_iff.1 hx).1
        simpa using this
      have hlt : j * 3 + t < n * 3 := by omega
      have hm : (j * 3 + t) % 3 = t := by omega
      rw [← hA0, made_at _ _ _ hlt]
      have hm' : (j * 3 + t) % (Value.agg #[.int .u64 0, .int .u64 0, .int .u32 0]).cells.size = t := hm
      rw [hm']
      match t, ht, hx with
      | 0, _, hx => exact hx
      | 1, _, hx => exact hx
      | 2, _, hx => exact hx
    have HA := Hid.mk hA
    clear hA0 hi hz0 hz1 hz2 hbb hA
    go_wp2
    refine HK.out _ _ _ ⟨rfl, rfl, rfl, rfl, rfl, rfl, rfl, rfl, rfl, rfl, rfl, rfl, rfl, rfl, rfl, rfl, rfl, rfl, rfl, rfl, rfl, rfl, rfl, rfl, rfl, rfl, rfl, rfl, rfl, rfl, rfl, rfl⟩ ((Below.refl _ _).alloc (Nat.le_refl _) _) (.inr ⟨_, _, _, rfl, by omega, Nat.le_refl _, by simp, fun j hj t x hx => ?_⟩)
    exact (cell_blk (heap_new _ _) _).trans (HA.out j hj t x hx)

theorem st33 (i : In) (l : List Value) (g : Nat) (la da : Option Addr) (ll lc dl dc : Nat) (kv ow tv ev : Value) (xa ya : Option Addr) (xl xc yl yc : Nat) (ob ab N : Nat) (v : Int) (zz : Option Addr) (pt : Int) (va : Int) (za : Option Addr) (w : World) (Q : Exit → Act → World → Prop) (R : World → World → Prop)
    (hf : Fr l (i.fr (mid g la ll lc da dl dc [(40, kv), (41, ow), (46, tv), (48, ev), (49, (.pointer (some ⟨N, 0, none⟩))), (50, .pointer (some ⟨ob, 0, none⟩)), (51, .pointer (some ⟨ab, 0, none⟩)), (52, .slice xa xl xc), (55, .slice ya yl yc)]))) (hob : w.heap[ob]? = some (.cells (peer v zz pt) 41 (0, 0))) (hab : w.heap[ab]? = some (.cells #[.int .u64 0, .int .u64 va, .pointer za, .int .u16 i.ap] 39 (0, 0)))
    (hcall : ∀ w1, Below w.heap.size w w1 → Calls Ybad.prog 10 #[.pointer (some ⟨N, 0, none⟩), .agg #[.int .u64 0, .int .u64 va, .pointer za, .int .u16 i.ap], .agg #[.int .u32 i.r, .int .u64 0, .int .u64 0, .int .u32 0, .int .u64 0, .int .u64 v, .pointer zz, .int .u16 pt, .slice ya yl yc, .slice xa xl xc, .string i.tx]] w1 fun r w' => r = .returned (.tuple #[]) ∧ R w1 w')
    (hK : ∀ l' w1 w', Fr l' (i.fr (mid g la ll lc da dl dc [(40, kv), (41, ow), (46, tv), (48, ev), (49, (.pointer (some ⟨N, 0, none⟩))), (50, .pointer (some ⟨ob, 0, none⟩)), (51, .pointer (some ⟨ab, 0, none⟩)), (52, .slice xa xl xc), (55, .slice ya yl yc)])) → Below w.heap.size w w1 → R w1 w' → (dropS 35 (bodyOf Ybad.f3)).wp Ybad.prog Q ⟨l'.toArray, []⟩ w') :
    (dropS 33 (bodyOf Ybad.f3)).wp Ybad.prog Q ⟨l.toArray, []⟩ w := by
  refine cut _ 33 2 35 rfl ?_
  generalize dropS 35 (bodyOf Ybad.f3) = Y at hK ⊢
  obtain ⟨u, hu⟩ : ∃ u : Nat → Value, ∀ n, l.getD n (.bool false) = u n := ⟨_, fun _ => rfl⟩
  have hlen := hf.len
  simp only [In.fr, mid, Fr, hu] at hf
  obtain ⟨h0, h1, h4, h6, h8, h9, h10, h11, h17, h19, h26, h27, h28, h31, h32, h33, h34, h35, h36, h37, h38, h39, h40, h41, h46, h48, h49, h50, h51, h52, h55, -⟩ := hf
  have HK := Hid.mk hK
  clear hK
  rw [frame_lit l hlen u hu, h0, h1, h4, h6, h8, h9, h10, h11, h17, h19, h26, h27, h28, h31, h32, h33, h34, h35, h36, h37, h38, h39, h40, h41, h46, h48, h49, h50, h51, h52, h55]
  clear hu hlen h0 h1 h4 h6 h8 h9 h10 h11 h17 h19 h26 h27 h28 h31 h32 h33 h34 h35 h36 h37 h38 h39 h40 h41 h46 h48 h49 h50 h51 h52 h55
  clear l
  conv => arg 2; whnf; arg 2; whnf; arg 2; whnf
  have HC := Hid.mk hcall
  clear hcall
  have zo := (Array.getElem?_eq_some_iff.1 hob).1
  have za' := (Array.getElem?_eq_some_iff.1 hab).1
  have c0 : w.cell? ⟨ob, 0, none⟩ = some (.int .u64 0) := cell_blk hob 0
  have c1 : w.cell? ⟨ob, 1, none⟩ = some (.int .u64 0) := cell_blk hob 1
  have c2 : w.cell? ⟨ob, 2, none⟩ = some (.int .u32 0) := cell_blk hob 2
  have c3 : w.cell? ⟨ob, 3, none⟩ = some (.int .u64 0) := cell_blk hob 3
  have c4 : w.cell? ⟨ob, 4, none⟩ = some (.int .u64 v) := cell_blk hob 4
  have c5 : w.cell? ⟨ob, 5, none⟩ = some (.pointer zz) := cell_blk hob 5
  have c6 : w.cell? ⟨ob, 6, none⟩ = some (.int .u16 pt) := cell_blk hob 6
  have a0 : w.cell? ⟨ab, 0, none⟩ = some (.int .u64 0) := cell_blk hab 0
  have a1 : w.cell? ⟨ab, 1, none⟩ = some (.int .u64 va) := cell_blk hab 1
  have a2 : w.cell? ⟨ab, 2, none⟩ = some (.pointer za) := cell_blk hab 2
  have a3 : w.cell? ⟨ab, 3, none⟩ = some (.int .u16 i.ap) := cell_blk hab 3
  clear hob hab
  go_wp2_with (go_at_call 10; go_must (refine (HC.out _ ((Below.refl _ _).alloc (Nat.le_refl _) _)).mono ?_); rintro e w2 ⟨rfl, hr⟩; have HR := Hid.mk hr; clear hr)
  exact HK.out _ _ _ ⟨rfl, rfl, rfl, rfl, rfl, rfl, rfl, rfl, rfl, rfl, rfl, rfl, rfl, rfl, rfl, rfl, rfl, rfl, rfl, rfl, rfl, rfl, rfl, rfl, rfl, rfl, rfl, rfl, rfl, rfl, rfl, rfl⟩ ((Below.refl _ _).alloc (Nat.le_refl _) _) HR.out


end Go.Proofs.YbulkdscsDoor
