import Derived.Test.YbulkdscsDoorR
namespace Go.Proofs.YbulkdscsDoor
open Go.RowKit
set_option maxRecDepth 100000
set_option maxHeartbeats 2000000

theorem st37n (i : In) (l : List Value) (g : Nat) (la da : Option Addr) (ll lc dl dc : Nat) (kv ow nv av sv pv : Value) (tg : Option Addr) (E ob B : Nat) (ks : List Int) (os : List Value) (m : List (Int × Value)) (w : World) (Q : Exit → Act → World → Prop)
    (hf : Fr l (i.fr (mid g la ll lc da dl dc [(40, kv), (41, ow), (46, .pointer tg), (48, .pointer (some ⟨E, 0, none⟩)), (49, nv), (50, .pointer (some ⟨ob, 0, none⟩)), (51, av), (52, sv), (55, pv), (57, .bool false)])))
    (hcalls : w.cell? ⟨g, 0, none⟩ = some (.int .i64 0)) (hstops : w.cell? ⟨E, 0, none⟩ = some (.slice none 0 0)) (hlo : w.cell? ⟨g + 6, 25, none⟩ = some (.bool i.ov)) (hdo : w.cell? ⟨g + 7, 25, none⟩ = some (.bool false))
    (hM : MapIs w (g + 8) m) (hm1 : m.map Prod.fst = ks) (hm2 : m.map Prod.snd = os) (hnd : ks.Nodup) (hos : ∀ x ∈ os, ∃ a, x = .pointer (some a)) (hT : TwoRows B kv ow ks os w) (hkl : ks.length ≤ 9000)
    (hQ : ∀ l' w', Fr l' [(24, .bool true)] → Below w.heap.size w w' → Q .ret ⟨l'.toArray, []⟩ w') :
    (dropS 37 (bodyOf Ybad.f3)).wp Ybad.prog Q ⟨l.toArray, []⟩ w := by
  have hml : m.length = ks.length := by rw [← hm1]; simp
  have hlm := run_len_map hM
  rw [hml] at hlm
  obtain ⟨ka, kc, rfl⟩ := owns_slice hT.keys
  obtain ⟨oa, oc, rfl⟩ := owns_slice hT.owns
  refine cut _ 37 1 38 rfl ?_
  generalize dropS 38 (bodyOf Ybad.f3) = Y
  obtain ⟨u, hu⟩ : ∃ u : Nat → Value, ∀ n, l.getD n (.bool false) = u n := ⟨_, fun _ => rfl⟩
  have hlen := hf.len
  simp only [In.fr, mid, Fr, hu] at hf
  obtain ⟨h0, h1, h4, h6, h8, h9, h10, h11, h17, h19, h26, h27, h28, h31, h32, h33, h34, h35, h36, h37, h38, h39, h40, h41, h46, h48, h49, h50, h51, h52, h55, h57, -⟩ := hf
  have HQ := Hid.mk hQ
  clear hQ
  rw [frame_lit l hlen u hu, h0, h1, h4, h6, h8, h9, h10, h11, h17, h19, h26, h27, h28, h31, h32, h33, h34, h35, h36, h37, h38, h39, h40, h41, h46, h48, h49, h50, h51, h52, h55, h57]
  clear hu hlen h0 h1 h4 h6 h8 h9 h10 h11 h17 h19 h26 h27 h28 h31 h32 h33 h34 h35 h36 h37 h38 h39 h40 h41 h46 h48 h49 h50 h51 h52 h55 h57
  clear l
  conv => arg 2; whnf; arg 2; whnf
  obtain ⟨r, fl, wait, op, ap, np, sa, sl, sc, tx, n0, ov⟩ := i
  simp only at hlo
  have HM := Hid.mk hM
  have HAT := Hid.mk (at_key hm1 hm2 hnd)
  have HOS := Hid.mk hos
  have HT := Hid.mk hT
  clear hM hm1 hm2 hnd hos hT hml
  go_wp2
  clear hlm hcalls hstops hlo hdo
  go_loopw [282] (fun j wr => ∃ k q : Nat, k ≤ ks.length ∧ j = .int .i64 k ∧ wr = w.drewN q) (fun j _ => ks.length - (intOf j).toNat)
  case atStart => exact ⟨0, 0, Nat.zero_le _, rfl, rfl⟩
  case round =>
    obtain ⟨k, q, hk, rfl, rfl⟩ := hrel
    by_cases hlt : k < ks.length
    · obtain ⟨x, hx, hfind⟩ := HAT.out k hlt
      obtain ⟨xa, rfl⟩ := HOS.out x (List.mem_of_getElem? hx)
      obtain ⟨kb, rfl⟩ : ∃ b, ka = some ⟨b, 0, none⟩ := by
        rcases HT.out.keys.2 with ⟨_, h0⟩ | ⟨b, _, _, h1, _⟩
        · omega
        · cases h1; exact ⟨b, rfl⟩
      obtain ⟨ob', rfl⟩ : ∃ b, oa = some ⟨b, 0, none⟩ := by
        rcases HT.out.owns.2 with ⟨_, h0⟩ | ⟨b, _, _, h1, _⟩
        · omega
        · cases h1; exact ⟨b, rfl⟩
      have c1 := HT.out.keys.cellAt k (by omega)
      have c2 := HT.out.owns.cellAt k (by omega)
      rw [hx] at c2
      generalize hy : ks.getD k 0 = y at hfind
      have c3 : w.cell? ⟨kb, k, none⟩ = some (.int .u32 y) := by rw [c1, ← hy]; simp [hlt]
      have hl := look_drewN HM.out y (.pointer (some xa)) (by rw [hfind]; rfl)
      have hq := neq46_same xa
      clear c1 hx hfind hy
      go_wp2
      go_quiet (fail)
      go_wp2
      go_roundw
      case rel => exact ⟨k + 1, _, by omega, by go_num, rfl⟩
      case measure => simp [intOf]; omega
    · go_wp2
      exact HQ.out _ _ ⟨rfl, rfl⟩ (Below.drewN' (Below.refl _ _) _)


end Go.Proofs.YbulkdscsDoor
