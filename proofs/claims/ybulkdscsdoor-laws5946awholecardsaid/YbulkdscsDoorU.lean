import Derived.Test.YbulkdscsDoorT
namespace Go.Proofs.YbulkdscsDoor
open Go.RowKit
set_option maxRecDepth 100000
set_option maxHeartbeats 2000000

theorem st42 (i : In) (l : List Value) (g : Nat) (la da : Option Addr) (ll lc dl dc : Nat) (kv ow nv av sv pv : Value) (T O E ob B : Nat) (ks : List Int) (os : List Value) (m : List (Int × Value)) (cnt : Nat → Nat) (w : World) (Q : Exit → Act → World → Prop)
    (hf : Fr l (i.fr (mid g la ll lc da dl dc [(40, kv), (41, ow), (46, .pointer (some ⟨T, 0, none⟩)), (48, .pointer (some ⟨E, 0, none⟩)), (49, nv), (50, .pointer (some ⟨ob, 0, none⟩)), (51, av), (52, sv), (55, pv)]))) (hTO : O ≠ T) (hTh : ∃ C, w.heap[T]? = some (.cells C 53 (0, 0))) (hOh : ∃ C, w.heap[O]? = some (.cells C 53 (0, 0)))
    (hM : MapIs w (g + 8) m) (hT : TwoRows B kv ow ks os w) (hkl : ks.length ≤ 9000) (hc0 : cnt 0 = 0) (hcb : ∀ j, cnt j ≤ j)
    (hkey : ∀ j, j < ks.length → (os[j]? = some (.pointer (some ⟨T, 0, none⟩)) ∧ findP (ks.getD j 0) m 0 = none ∧ cnt (j + 1) = cnt j) ∨ (os[j]? = some (.pointer (some ⟨O, 0, none⟩)) ∧ (∃ p, findP (ks.getD j 0) m 0 = some (p, .pointer (some ⟨O, 0, none⟩))) ∧ cnt (j + 1) = cnt j + 1))
    (hK : ∀ l', Fr l' (i.fr (mid g la ll lc da dl dc [(40, kv), (41, ow), (46, .pointer (some ⟨T, 0, none⟩)), (48, .pointer (some ⟨E, 0, none⟩)), (49, nv), (50, .pointer (some ⟨ob, 0, none⟩)), (51, av), (52, sv), (55, pv), (61, .int .i64 (cnt ks.length))])) → (dropS 44 (bodyOf Ybad.f3)).wp Ybad.prog Q ⟨l'.toArray, []⟩ w) :
    (dropS 42 (bodyOf Ybad.f3)).wp Ybad.prog Q ⟨l.toArray, []⟩ w := by
  obtain ⟨CT, hCT⟩ := hTh
  obtain ⟨CO, hCO⟩ := hOh
  have he1 := eql46_other hTO hCO hCT
  have he2 := eql46_same ⟨T, 0, none⟩
  have he3 := neq46_same ⟨O, 0, none⟩
  obtain ⟨ka, kc, rfl⟩ := owns_slice hT.keys
  obtain ⟨oa, oc, rfl⟩ := owns_slice hT.owns
  clear hCT hCO
  refine cut _ 42 2 44 rfl ?_
  generalize dropS 44 (bodyOf Ybad.f3) = Y at hK ⊢
  obtain ⟨u, hu⟩ : ∃ u : Nat → Value, ∀ n, l.getD n (.bool false) = u n := ⟨_, fun _ => rfl⟩
  have hlen := hf.len
  simp only [In.fr, mid, Fr, hu] at hf
  obtain ⟨h0, h1, h4, h6, h8, h9, h10, h11, h17, h19, h26, h27, h28, h31, h32, h33, h34, h35, h36, h37, h38, h39, h40, h41, h46, h48, h49, h50, h51, h52, h55, -⟩ := hf
  have HK := Hid.mk hK
  clear hK
  rw [frame_lit l hlen u hu, h0, h1, h4, h6, h8, h9, h10, h11, h17, h19, h26, h27, h28, h31, h32, h33, h34, h35, h36, h37, h38, h39, h40, h41, h46, h48, h49, h50, h51, h52, h55]
  clear hu hlen h0 h1 h4 h6 h8 h9 h10 h11 h17 h19 h26 h27 h28 h31 h32 h33 h34 h35 h36 h37 h38 h39 h40 h41 h46 h48 h49 h50 h51 h52 h55
  clear l
  conv => arg 2; whnf; arg 2; whnf; arg 2; whnf
  have HM := Hid.mk hM
  have HKEY := Hid.mk hkey
  have HT := Hid.mk hT
  have HC0 := Hid.mk hc0
  have HCB := Hid.mk hcb
  clear hM hkey hT hc0 hcb
  go_wp2
  go_loopw [61, 360] (fun c j wr => ∃ k : Nat, k ≤ ks.length ∧ j = .int .i64 k ∧ c = .int .i64 (cnt k) ∧ wr = w) (fun _ j _ => ks.length - (intOf j).toNat)
  case atStart => exact ⟨0, Nat.zero_le _, rfl, by rw [HC0.out]; rfl, rfl⟩
  case round =>
    obtain ⟨k, hk, rfl, rfl, rfl⟩ := hrel
    by_cases hlt : k < ks.length
    · obtain ⟨kb, rfl⟩ : ∃ b, ka = some ⟨b, 0, none⟩ := by
        rcases HT.out.keys.2 with ⟨_, h0⟩ | ⟨b, _, _, h1, _⟩
        · omega
        · cases h1; exact ⟨b, rfl⟩
      obtain ⟨ob', rfl⟩ : ∃ b, oa = some ⟨b, 0, none⟩ := by
        rcases HT.out.owns.2 with ⟨_, h0⟩ | ⟨b, _, _, h1, _⟩
        · omega
        · cases h1; exact ⟨b, rfl⟩
      have c1 := HT.out.keys.cellAt k (by omega)
      have c2 := HT.out.owns.cellAt k (by omega)
      have hck := HCB.out k
      have hkeyk := HKEY.out k hlt
      have hl := run_look_ok HM.out (ks.getD k 0)
      generalize hy : ks.getD k 0 = y at hkeyk hl
      have c3 : wr.cell? ⟨kb, k, none⟩ = some (.int .u32 y) := by rw [c1, ← hy]; simp [hlt]
      clear c1 hy
      rcases hkeyk with ⟨k1, k2, k3⟩ | ⟨k1, ⟨p, k2⟩, k3⟩
      · rw [k1] at c2
        rw [k2] at hl
        have HK3 := Hid.mk k3
        clear k1 k2 k3
        generalize cnt k = ck at hck HK3
        go_wp2
        go_roundw
        case rel => exact ⟨k + 1, by omega, by go_num, by rw [HK3.out], trivial⟩
        case measure => simp [intOf]; omega
      · rw [k1] at c2
        rw [k2] at hl
        have HK3 := Hid.mk k3
        clear k1 k2 k3
        generalize cnt k = ck at hck HK3
        go_wp2
        go_roundw
        case rel => exact ⟨k + 1, by omega, by go_num, by rw [HK3.out]; go_num, trivial⟩
        case measure => simp [intOf]; omega
    · have hke : k = ks.length := by omega
      subst hke
      go_wp2
      exact HK.out _ ⟨rfl, rfl, rfl, rfl, rfl, rfl, rfl, rfl, rfl, rfl, rfl, rfl, rfl, rfl, rfl, rfl, rfl, rfl, rfl, rfl, rfl, rfl, rfl, rfl, rfl, rfl, rfl, rfl, rfl, rfl, rfl, rfl, rfl⟩


end Go.Proofs.YbulkdscsDoor
