import Derived.Test.YbulkdscsDoorQ
import Derived.LaidEqlPtr
namespace Go.Proofs.YbulkdscsDoor
open Go.RowKit
set_option maxRecDepth 100000
set_option maxHeartbeats 2000000

theorem Ybad.ptr46 : Ybad.prog.underlying 46 = some (.pointer 53) := by kernel_rfl
theorem info53 : ∃ i, Ybad.prog.info? 53 = some i ∧ i.size ≠ 0 := by
  have h : (Ybad.prog.info? 53).map (fun i => i.size) = some 29 := by kernel_rfl
  cases hi : Ybad.prog.info? 53 with
  | none => rw [hi] at h; cases h
  | some i =>
    rw [hi] at h
    simp only [Option.map_some, Option.some.injEq] at h
    exact ⟨i, rfl, by omega⟩
theorem in46_same (a : Addr) (d : Nat) (w : World) : (Op.equalIn (d + 1) 46 (.pointer (some a)) (.pointer (some a))).run Ybad.prog w = .ok true w := by
  obtain ⟨j, hj, _⟩ := info53
  simp [Op.equalIn, run_underlying Ybad.ptr46, sizeOf, typeInfo, hj, run_sameAddr_same]
theorem eql46_same (a : Addr) (w : World) : (binOp .eql 46 (.pointer (some a)) (.pointer (some a))).run Ybad.prog w = .ok (.bool true) w := by
  simp only [binOp]
  simp [Op.equal, Op.maxDepth, in46_same a 9999]
theorem neq46_same (a : Addr) (w : World) : (binOp .neq 46 (.pointer (some a)) (.pointer (some a))).run Ybad.prog w = .ok (.bool false) w := by
  simp only [binOp]
  simp [Op.equal, Op.maxDepth, in46_same a 9999]
theorem eql46_other {a b : Nat} {ca cb : Array Value} {ta tb : TypeId} {w : World} (hne : a ≠ b) (ha : w.heap[a]? = some (.cells ca ta (0, 0))) (hb : w.heap[b]? = some (.cells cb tb (0, 0))) :
    (binOp .eql 46 (.pointer (some ⟨a, 0, none⟩)) (.pointer (some ⟨b, 0, none⟩))).run Ybad.prog w = .ok (.bool false) w := by
  obtain ⟨j, hj, hs⟩ := info53
  exact run_eql_ptr_other w Ybad.ptr46 hj hs (fun e => hne (Addr.mk.inj e).1) ha hb

theorem findP_at {k : Int} {v : Value} : ∀ (m : List (Int × Value)) (i j : Nat), (m.map Prod.fst).Nodup → m[j]? = some (k, v) → findP k m i = some (i + j, v)
  | [], _, _, _, h => by simp at h
  | p :: r, i, 0, hn, h => by
    simp only [List.getElem?_cons_zero, Option.some.injEq] at h
    subst h
    unfold findP
    rw [if_pos rfl]; rfl
  | p :: r, i, j + 1, hn, h => by
    simp only [List.getElem?_cons_succ] at h
    simp only [List.map_cons, List.nodup_cons] at hn
    unfold findP
    rw [if_neg (fun e => hn.1 (by rw [← e]; exact List.mem_map_of_mem (f := Prod.fst) (List.mem_of_getElem? h))), findP_at r (i + 1) j hn.2 h]
    congr 2
    omega

/-- keys, owners and the map say the same. -/
theorem at_key {ks : List Int} {os : List Value} {m : List (Int × Value)} (h1 : m.map Prod.fst = ks) (h2 : m.map Prod.snd = os) (hn : ks.Nodup) (j : Nat) (hj : j < ks.length) :
    ∃ x, os[j]? = some x ∧ findP (ks.getD j 0) m 0 = some (j, x) := by
  have hl : j < m.length := by rw [← h1] at hj; simpa using hj
  refine ⟨m[j].2, by rw [← h2]; simp [hl], ?_⟩
  have := findP_at (k := ks.getD j 0) (v := m[j].2) m 0 j (h1 ▸ hn) (by subst h1; simp [hl])
  rwa [Nat.zero_add] at this

def settles (tg : Option Addr) (g : Nat) (ov : Bool) : Bool := tg.isSome && !(decide (tg = some ⟨g + 6, 0, none⟩) && ov)

theorem st35 (i : In) (l : List Value) (g : Nat) (la da : Option Addr) (ll lc dl dc : Nat) (kv ow nv av sv pv : Value) (tg : Option Addr) (E ob : Nat) (w : World) (Q : Exit → Act → World → Prop)
    (hf : Fr l (i.fr (mid g la ll lc da dl dc [(40, kv), (41, ow), (46, .pointer tg), (48, .pointer (some ⟨E, 0, none⟩)), (49, nv), (50, .pointer (some ⟨ob, 0, none⟩)), (51, av), (52, sv), (55, pv)]))) (hE : w.cell? ⟨E, 1, none⟩ = some (.int .i64 0))
    (htg : tg = none ∨ tg = some ⟨g + 6, 0, none⟩ ∨ tg = some ⟨g + 7, 0, none⟩) (hl : ∃ C, w.heap[g + 6]? = some (.cells C 53 (0, 0))) (hd : ∃ C, w.heap[g + 7]? = some (.cells C 53 (0, 0)))
    (hK : ∀ l', Fr l' (i.fr (mid g la ll lc da dl dc [(40, kv), (41, ow), (46, .pointer tg), (48, .pointer (some ⟨E, 0, none⟩)), (49, nv), (50, .pointer (some ⟨ob, 0, none⟩)), (51, av), (52, sv), (55, pv), (57, .bool (settles tg g i.ov))])) → (dropS 37 (bodyOf Ybad.f3)).wp Ybad.prog Q ⟨l'.toArray, []⟩ w) :
    (dropS 35 (bodyOf Ybad.f3)).wp Ybad.prog Q ⟨l.toArray, []⟩ w := by
  obtain ⟨CL, hCL⟩ := hl
  obtain ⟨CD, hCD⟩ := hd
  have ho := eql46_other (show g + 7 ≠ g + 6 by omega) hCD hCL
  have hs := eql46_same ⟨g + 6, 0, none⟩
  clear hCL hCD
  refine cut _ 35 2 37 rfl ?_
  generalize dropS 37 (bodyOf Ybad.f3) = Y at hK ⊢
  obtain ⟨u, hu⟩ : ∃ u : Nat → Value, ∀ n, l.getD n (.bool false) = u n := ⟨_, fun _ => rfl⟩
  have hlen := hf.len
  simp only [In.fr, mid, Fr, hu] at hf
  obtain ⟨h0, h1, h4, h6, h8, h9, h10, h11, h17, h19, h26, h27, h28, h31, h32, h33, h34, h35, h36, h37, h38, h39, h40, h41, h46, h48, h49, h50, h51, h52, h55, -⟩ := hf
  have HK := Hid.mk hK
  clear hK
  rw [frame_lit l hlen u hu, h0, h1, h4, h6, h8, h9, h10, h11, h17, h19, h26, h27, h28, h31, h32, h33, h34, h35, h36, h37, h38, h39, h40, h41, h46, h48, h49, h50, h51, h52, h55]
  clear hu hlen h0 h1 h4 h6 h8 h9 h10 h11 h17 h19 h26 h27 h28 h31 h32 h33 h34 h35 h36 h37 h38 h39 h40 h41 h46 h48 h49 h50 h51 h52 h55
  clear l
  conv => arg 2; whnf; arg 2; whnf; arg 2; whnf
  obtain ⟨r, fl, wait, op, ap, np, sa, sl, sc, tx, n0, ov⟩ := i
  rcases htg with rfl | rfl | rfl
  · go_wp2
    exact HK.out _ ⟨rfl, rfl, rfl, rfl, rfl, rfl, rfl, rfl, rfl, rfl, rfl, rfl, rfl, rfl, rfl, rfl, rfl, rfl, rfl, rfl, rfl, rfl, rfl, rfl, rfl, rfl, rfl, rfl, rfl, rfl, rfl, rfl, rfl⟩
  · cases ov with
    | false =>
      go_wp2
      exact HK.out _ ⟨rfl, rfl, rfl, rfl, rfl, rfl, rfl, rfl, rfl, rfl, rfl, rfl, rfl, rfl, rfl, rfl, rfl, rfl, rfl, rfl, rfl, rfl, rfl, rfl, rfl, rfl, rfl, rfl, rfl, rfl, rfl, by simp [settles], rfl⟩
    | true =>
      go_wp2
      exact HK.out _ ⟨rfl, rfl, rfl, rfl, rfl, rfl, rfl, rfl, rfl, rfl, rfl, rfl, rfl, rfl, rfl, rfl, rfl, rfl, rfl, rfl, rfl, rfl, rfl, rfl, rfl, rfl, rfl, rfl, rfl, rfl, rfl, by simp [settles], rfl⟩
  · go_wp2
    exact HK.out _ ⟨rfl, rfl, rfl, rfl, rfl, rfl, rfl, rfl, rfl, rfl, rfl, rfl, rfl, rfl, rfl, rfl, rfl, rfl, rfl, rfl, rfl, rfl, rfl, rfl, rfl, rfl, rfl, rfl, rfl, rfl, rfl, by simp [settles], rfl⟩


end Go.Proofs.YbulkdscsDoor
