import Derived.Test.YbulkdscsDoorS
namespace Go.Proofs.YbulkdscsDoor
open Go.RowKit
set_option maxRecDepth 100000
set_option maxHeartbeats 2000000

theorem st37l (i : In) (l : List Value) (g : Nat) (la da : Option Addr) (ll lc dl dc : Nat) (kv ow nv av sv pv : Value) (E ob : Nat) (w : World) (Q : Exit → Act → World → Prop)
    (hf : Fr l (i.fr (mid g la ll lc da dl dc [(40, kv), (41, ow), (46, .pointer (some ⟨g + 6, 0, none⟩)), (48, .pointer (some ⟨E, 0, none⟩)), (49, nv), (50, .pointer (some ⟨ob, 0, none⟩)), (51, av), (52, sv), (55, pv), (57, .bool true)])))
    (hcalls : w.cell? ⟨g, 0, none⟩ = some (.int .i64 1)) (hwho : w.cell? ⟨g + 1, 0, none⟩ = some (.int .i64 1)) (hlo : w.cell? ⟨g + 6, 25, none⟩ = some (.bool true)) (hdo : w.cell? ⟨g + 7, 25, none⟩ = some (.bool false))
    (hstops : (i.wait = 0 ∧ w.cell? ⟨E, 0, none⟩ = some (.slice none 0 0)) ∨ (i.wait ≠ 0 ∧ ∃ b c, w.cell? ⟨E, 0, none⟩ = some (.slice (some ⟨b, 0, none⟩) 1 c) ∧ w.cell? ⟨b, 0, none⟩ = some (.int .u64 i.wait)))
    (hK : ∀ l', Fr l' (i.fr (mid g la ll lc da dl dc [(40, kv), (41, ow), (46, .pointer (some ⟨g + 6, 0, none⟩)), (48, .pointer (some ⟨E, 0, none⟩)), (49, nv), (50, .pointer (some ⟨ob, 0, none⟩)), (51, av), (52, sv), (55, pv)])) → (dropS 42 (bodyOf Ybad.f3)).wp Ybad.prog Q ⟨l'.toArray, []⟩ w) :
    (dropS 37 (bodyOf Ybad.f3)).wp Ybad.prog Q ⟨l.toArray, []⟩ w := by
  have hs := eql46_same ⟨g + 6, 0, none⟩
  refine cut _ 37 5 42 rfl ?_
  generalize dropS 42 (bodyOf Ybad.f3) = Y at hK ⊢
  obtain ⟨u, hu⟩ : ∃ u : Nat → Value, ∀ n, l.getD n (.bool false) = u n := ⟨_, fun _ => rfl⟩
  have hlen := hf.len
  simp only [In.fr, mid, Fr, hu] at hf
  obtain ⟨h0, h1, h4, h6, h8, h9, h10, h11, h17, h19, h26, h27, h28, h31, h32, h33, h34, h35, h36, h37, h38, h39, h40, h41, h46, h48, h49, h50, h51, h52, h55, h57, -⟩ := hf
  have HK := Hid.mk hK
  clear hK
  rw [frame_lit l hlen u hu, h0, h1, h4, h6, h8, h9, h10, h11, h17, h19, h26, h27, h28, h31, h32, h33, h34, h35, h36, h37, h38, h39, h40, h41, h46, h48, h49, h50, h51, h52, h55, h57]
  clear hu hlen h0 h1 h4 h6 h8 h9 h10 h11 h17 h19 h26 h27 h28 h31 h32 h33 h34 h35 h36 h37 h38 h39 h40 h41 h46 h48 h49 h50 h51 h52 h55 h57
  clear l
  conv => arg 2; whnf; arg 2; whnf; arg 2; whnf; arg 2; whnf; arg 2; whnf; arg 2; whnf
  obtain ⟨r, fl, wait, op, ap, np, sa, sl, sc, tx, n0, ov⟩ := i
  simp only at hstops
  rcases hstops with ⟨rfl, h1⟩ | ⟨h0, b, c, h1, h2⟩
  · go_wp2
    exact HK.out _ ⟨rfl, rfl, rfl, rfl, rfl, rfl, rfl, rfl, rfl, rfl, rfl, rfl, rfl, rfl, rfl, rfl, rfl, rfl, rfl, rfl, rfl, rfl, rfl, rfl, rfl, rfl, rfl, rfl, rfl, rfl, rfl, rfl⟩
  · have hw' : (wait != 0) = true := by simpa using h0
    go_wp2
    exact HK.out _ ⟨rfl, rfl, rfl, rfl, rfl, rfl, rfl, rfl, rfl, rfl, rfl, rfl, rfl, rfl, rfl, rfl, rfl, rfl, rfl, rfl, rfl, rfl, rfl, rfl, rfl, rfl, rfl, rfl, rfl, rfl, rfl, rfl⟩

theorem st37d (i : In) (l : List Value) (g : Nat) (la da : Option Addr) (ll lc dl dc : Nat) (kv ow nv av sv pv : Value) (E ob : Nat) (w : World) (Q : Exit → Act → World → Prop)
    (hf : Fr l (i.fr (mid g la ll lc da dl dc [(40, kv), (41, ow), (46, .pointer (some ⟨g + 7, 0, none⟩)), (48, .pointer (some ⟨E, 0, none⟩)), (49, nv), (50, .pointer (some ⟨ob, 0, none⟩)), (51, av), (52, sv), (55, pv), (57, .bool true)])))
    (hcalls : w.cell? ⟨g, 0, none⟩ = some (.int .i64 1)) (hwho : w.cell? ⟨g + 1, 0, none⟩ = some (.int .i64 2)) (hlo : w.cell? ⟨g + 6, 25, none⟩ = some (.bool i.ov)) (hdo : w.cell? ⟨g + 7, 25, none⟩ = some (.bool true))
    (hstops : w.cell? ⟨E, 0, none⟩ = some (.slice none 0 0)) (hl : ∃ C, w.heap[g + 6]? = some (.cells C 53 (0, 0))) (hd : ∃ C, w.heap[g + 7]? = some (.cells C 53 (0, 0)))
    (hK : ∀ l', Fr l' (i.fr (mid g la ll lc da dl dc [(40, kv), (41, ow), (46, .pointer (some ⟨g + 7, 0, none⟩)), (48, .pointer (some ⟨E, 0, none⟩)), (49, nv), (50, .pointer (some ⟨ob, 0, none⟩)), (51, av), (52, sv), (55, pv)])) → (dropS 42 (bodyOf Ybad.f3)).wp Ybad.prog Q ⟨l'.toArray, []⟩ w) :
    (dropS 37 (bodyOf Ybad.f3)).wp Ybad.prog Q ⟨l.toArray, []⟩ w := by
  obtain ⟨CL, hCL⟩ := hl
  obtain ⟨CD, hCD⟩ := hd
  have ho := eql46_other (show g + 7 ≠ g + 6 by omega) hCD hCL
  clear hCL hCD
  refine cut _ 37 5 42 rfl ?_
  generalize dropS 42 (bodyOf Ybad.f3) = Y at hK ⊢
  obtain ⟨u, hu⟩ : ∃ u : Nat → Value, ∀ n, l.getD n (.bool false) = u n := ⟨_, fun _ => rfl⟩
  have hlen := hf.len
  simp only [In.fr, mid, Fr, hu] at hf
  obtain ⟨h0, h1, h4, h6, h8, h9, h10, h11, h17, h19, h26, h27, h28, h31, h32, h33, h34, h35, h36, h37, h38, h39, h40, h41, h46, h48, h49, h50, h51, h52, h55, h57, -⟩ := hf
  have HK := Hid.mk hK
  clear hK
  rw [frame_lit l hlen u hu, h0, h1, h4, h6, h8, h9, h10, h11, h17, h19, h26, h27, h28, h31, h32, h33, h34, h35, h36, h37, h38, h39, h40, h41, h46, h48, h49, h50, h51, h52, h55, h57]
  clear hu hlen h0 h1 h4 h6 h8 h9 h10 h11 h17 h19 h26 h27 h28 h31 h32 h33 h34 h35 h36 h37 h38 h39 h40 h41 h46 h48 h49 h50 h51 h52 h55 h57
  clear l
  conv => arg 2; whnf; arg 2; whnf; arg 2; whnf; arg 2; whnf; arg 2; whnf; arg 2; whnf
  obtain ⟨r, fl, wait, op, ap, np, sa, sl, sc, tx, n0, ov⟩ := i
  simp only at hlo
  go_wp2
  exact HK.out _ ⟨rfl, rfl, rfl, rfl, rfl, rfl, rfl, rfl, rfl, rfl, rfl, rfl, rfl, rfl, rfl, rfl, rfl, rfl, rfl, rfl, rfl, rfl, rfl, rfl, rfl, rfl, rfl, rfl, rfl, rfl, rfl, rfl⟩


end Go.Proofs.YbulkdscsDoor
