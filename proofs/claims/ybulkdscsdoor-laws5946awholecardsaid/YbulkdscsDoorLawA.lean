import Derived.Test.YbulkdscsDoorZ
namespace Go.Proofs.YbulkdscsDoor
open Go.RowKit
set_option maxRecDepth 100000
set_option maxHeartbeats 2000000

theorem SuccsIs.slice {B : Nat} {w : World} {sv : Value} (h : SuccsIs B w sv) : ∃ a n c, sv = .slice a n c := by
  rcases h with rfl | ⟨b, n, c, rfl, _⟩
  · exact ⟨_, _, _, rfl⟩
  · exact ⟨_, _, _, rfl⟩
theorem PathIs.slice {B : Nat} {w : World} {sv : Value} (h : PathIs B w sv) : ∃ a n c, sv = .slice a n c := by
  rcases h with rfl | ⟨b, n, c, rfl, _⟩
  · exact ⟨_, _, _, rfl⟩
  · exact ⟨_, _, _, rfl⟩
theorem SuccsIs.mono {B B' : Nat} {w : World} {sv : Value} (h : SuccsIs B w sv) (hB : B' ≤ B) : SuccsIs B' w sv := by
  rcases h with h | ⟨b, n, c, h1, h2, h3, h4⟩
  · exact .inl h
  · exact .inr ⟨b, n, c, h1, h2, Nat.le_trans hB h3, h4⟩
theorem PathIs.mono {B B' : Nat} {w : World} {sv : Value} (h : PathIs B w sv) (hB : B' ≤ B) : PathIs B' w sv := by
  rcases h with h | ⟨b, n, c, h1, h2, h3, h4⟩
  · exact .inl h
  · exact .inr ⟨b, n, c, h1, h2, Nat.le_trans hB h3, h4⟩
theorem Made.below {g : Nat} {ov : Bool} {wait : Int} {la : Option Addr} {ll lc : Nat} {da : Option Addr} {dl dc : Nat} {w w' : World} (h : Made g ov wait la ll lc da dl dc w) (hB : Below (g + 8) w w') : Made g ov wait la ll lc da dl dc w' := by
  obtain ⟨CL, l1, l2⟩ := h.tl
  obtain ⟨CD, d1, d2⟩ := h.td
  have v := h.vars
  exact ⟨⟨(hB.block _ (by omega)).trans v.b0, (hB.block _ (by omega)).trans v.b1, (hB.block _ (by omega)).trans v.b2, (hB.block _ (by omega)).trans v.b3, (hB.block _ (by omega)).trans v.b4, (hB.block _ (by omega)).trans v.b5⟩,
    ⟨CL, (hB.block _ (by omega)).trans l1, l2⟩, ⟨CD, (hB.block _ (by omega)).trans d1, d2⟩⟩

/-- Which owner 'keys' names for r. -/
theorem target {K D : List Int} {l d : Addr} (x : Int) : ∀ tg : Option Addr, (x ∈ K → tg = some l) → (x ∉ K → x ∈ D → tg = some d) → (x ∉ K ++ D → tg = none) →
    (tg = none ∧ idx x (K ++ D) = -1) ∨ ∃ j : Nat, idx x (K ++ D) = j ∧ j < (K ++ D).length ∧ (K.map (fun _ => (.pointer (some l) : Value)) ++ D.map fun _ => (.pointer (some d) : Value))[j]? = some (.pointer tg) := by
  intro tg h1 h2 h3
  by_cases hx : x ∈ K ++ D
  · have hidx : idx x (K ++ D) = ((K ++ D).idxOf x : Nat) := if_pos hx
    refine .inr ⟨_, hidx, List.idxOf_lt_length_of_mem hx, ?_⟩
    by_cases hk : x ∈ K
    · rw [h1 hk, List.idxOf_append, if_pos hk, List.getElem?_append_left (by simpa using List.idxOf_lt_length_of_mem hk)]
      simp [List.idxOf_lt_length_of_mem hk]
    · have hd : x ∈ D := by simpa [hk] using hx
      rw [h2 hk hd, List.idxOf_append, if_neg hk, List.getElem?_append_right (by simp)]
      simp [List.idxOf_lt_length_of_mem hd]
  · exact .inl ⟨h3 hx, if_neg hx⟩

/-- From the entry to the call of routed. -/
theorem front (l : List Value) (r fl : Int) (ra ea sa : Option Addr) (rl rc el ec sl sc : Nat) (wait : Int) (o0 o1 o2 o3 op a0 a1 a2 a3 ap : Int) (tx : ByteArray) (n : Nat) (w : World) (rs es ps : List Int) (z : Addr) (Q : Exit → Act → World → Prop)
    (hf : Fr l [(0, .int .u32 r), (1, .int .u8 fl), (2, .slice ra rl rc), (3, .slice ea el ec), (4, .int .u64 wait), (5, .agg #[.int .u8 o0, .int .u8 o1, .int .u8 o2, .int .u8 o3]), (6, .int .u16 op), (7, .agg #[.int .u8 a0, .int .u8 a1, .int .u8 a2, .int .u8 a3]), (8, .int .u16 ap), (9, .string tx), (10, .slice sa sl sc), (11, .int .u8 n)]) (hlong1 : ¬ (rl : Int) + el > 4096) (hlong2 : ¬ (sl : Int) > 65536) (hR : RowIs .u32 w (.slice ra rl rc) rs) (hE : RowIs .u32 w (.slice ea el ec) es) (hP : RowIs .u16 w (.slice sa sl sc) ps) (hz : w.cell? ⟨0, 0, none⟩ = some (.pointer (some z))) (hn : n ≤ 255)
    (h0 : 0 ≤ o0 ∧ o0 ≤ 255) (h1 : 0 ≤ o1 ∧ o1 ≤ 255) (h2 : 0 ≤ o2 ∧ o2 ≤ 255) (h3 : 0 ≤ o3 ∧ o3 ≤ 255) (k0 : 0 ≤ a0 ∧ a0 ≤ 255) (k1 : 0 ≤ a1 ∧ a1 ≤ 255) (k2 : 0 ≤ a2 ∧ a2 ≤ 255) (k3 : 0 ≤ a3 ∧ a3 ≤ 255)
    (hK : ∀ (q : St) (tg : Option Addr) l' w', q.i.r = r → Plain q → Ready q w' → w.heap.size ≤ q.g → Below w.heap.size w w' → (q.i.r ∈ q.K → tg = some ⟨q.g + 6, 0, none⟩) → (q.i.r ∉ q.K → q.i.r ∈ q.D → tg = some ⟨q.g + 7, 0, none⟩) → (q.i.r ∉ q.K ++ q.D → tg = none) → Fr l' (q.fr tg []) → (dropS 33 (bodyOf Ybad.f3)).wp Ybad.prog Q ⟨l'.toArray, []⟩ w') :
    (dropS 0 (bodyOf Ybad.f3)).wp Ybad.prog Q ⟨l.toArray, []⟩ w := by
  have hrl := RowIs.lenq hR
  have hel := RowIs.lenq hE
  have hsl := RowIs.lenq hP
  have hz0 : 0 < w.heap.size := World.block_lt_of_cell? w _ hz
  refine stA l r fl ra ea sa rl rc el ec sl sc wait o0 o1 o2 o3 op a0 a1 a2 a3 ap tx n w rs Q hf hlong1 hlong2 hR ?_
  intro l1 w1 lv1 hf1 ho1 hB1 hs1 hb0 hb1
  generalize hi : (⟨r, fl, wait, op, ap, n, sa, sl, sc, tx, w.heap.size, bits .and .u8 fl 2 != 0⟩ : In) = i at hf1
  have ir : i.r = r := by rw [← hi]
  have iap : i.ap = ap := by rw [← hi]
  have inp : i.np = n := by rw [← hi]
  have in0 : i.n0 = w.heap.size := by rw [← hi]
  have isa : i.sa = sa := by rw [← hi]
  have isl : i.sl = sl := by rw [← hi]
  have isc : i.sc = sc := by rw [← hi]
  clear hi
  generalize (bits .and .u8 fl 1 != 0) = kn at hf1
  refine st6 i l1 kn lv1 (.slice ea el ec) rs.length rs (w.heap.size + 2) w1 Q hf1 ho1 rfl hs1 (by omega) ?_
  intro l2 w2 lv2 hf2 ho2 hB2 hs2
  have hLlen : (rs ++ if kn then [i.r] else []).length ≤ rs.length + 1 := by
    cases kn
    · simp
    · simp
  generalize (rs ++ if kn then [i.r] else []) = L at ho2 hLlen
  have hBw2 : Below w.heap.size w w2 := hB1.trans (hB2.mono (by omega))
  refine st7 i l2 ea el ec lv2 L es (w.heap.size + 2) w w2 Q hf2 ho2 hE hBw2 (by omega) (by omega) ?_
  intro l3 w3 dv3 hf3 hB3 ho3
  obtain ⟨la, lc, rfl⟩ := owns_slice ho2
  obtain ⟨da, dc, rfl⟩ := owns_slice ho3
  have hDlen : (rest L es).length ≤ 4096 := by
    have := foldD_len L es []
    simp only [List.length_nil] at this
    unfold rest
    omega
  have hs3 := hB3.size
  have hBw3 : Below w.heap.size w w3 := hBw2.trans (hB3.mono hBw2.size)
  have bL : ∀ x, la = some x → x.block < w3.heap.size := fun x hx => by
    have := (owns_lt ho2 x.block (by rw [hx]; rfl)).2
    omega
  have bD : ∀ x, da = some x → x.block < w3.heap.size := fun x hx => (owns_lt ho3 x.block (by rw [hx]; rfl)).2
  have rL : RowIs .u32 w3 (.slice la L.length lc) L := (row_of_owns ho2).below hB3
  have rD : RowIs .u32 w3 (.slice da (rest L es).length dc) (rest L es) := row_of_owns ho3
  have nD := rest_nodup L es
  have aD := rest_apart L es
  generalize rest L es = D at hf3 ho3 hDlen rD nD aD
  refine st9 i l3 la da L.length lc D.length dc w3 Q hf3 ?_
  intro l4 w4 hf4 hB4 hs4 hMade hM4
  generalize hg : w3.heap.size = g at *
  have nK := dedup_nodup L
  have mK := mem_dedup L
  have lK : (dedup L).length ≤ 4097 := by
    have := foldK_len L []
    simp only [List.length_nil] at this
    unfold dedup
    omega
  refine st20 i l4 g la da L.length lc D.length dc L w4 Q hf4 (rL.below (hg ▸ hB4)) (fun x hx => by have := bL x hx; omega) hM4 (by omega) ?_
  intro l5 w5 kv5 ow5 hf5 hB5 hM5 hT5
  generalize dedup L = K at *
  have nd : (K ++ D).Nodup := by
    rw [List.nodup_append]
    exact ⟨nK, nD, fun a ha b hb e => aD b hb ((mK b).1 (e ▸ ha))⟩
  have rD4 := rD.below (hg ▸ hB4)
  refine st21 i l5 g la da L.length lc D.length dc K D kv5 ow5 w5 Q hf5 (RowIs.keep rD4 (fun x hx => by have := bD x hx; omega) hB5) (fun x hx => by have := bD x hx; omega) hM5 hT5 lK hDlen nd ?_
  intro l6 w6 kv ow hf6 hB6 hM6 hT6
  have hB46 : Below (g + 8) w4 w6 := hB5.trans hB6
  have hs6 := hM6.lt
  obtain ⟨tg, t1, t2, t3⟩ : ∃ tg : Option Addr, (i.r ∈ K → tg = some ⟨g + 6, 0, none⟩) ∧ (i.r ∉ K → i.r ∈ D → tg = some ⟨g + 7, 0, none⟩) ∧ (i.r ∉ K ++ D → tg = none) := by
    by_cases hk : i.r ∈ K
    · exact ⟨some ⟨g + 6, 0, none⟩, fun _ => rfl, fun h => absurd hk h, fun h => absurd (List.mem_append_left _ hk) h⟩
    · by_cases hd : i.r ∈ D
      · exact ⟨some ⟨g + 7, 0, none⟩, fun h => absurd h hk, fun _ _ => rfl, fun h => absurd (List.mem_append_right _ hd) h⟩
      · exact ⟨none, fun h => absurd h hk, fun _ h => absurd h hd, fun _ => rfl⟩
  refine st22 i l6 g la da L.length lc D.length dc (K ++ D) _ kv ow tg (g + 8 + 1) w6 Q hf6 hT6 (by simp only [List.length_append]; omega) (target i.r tg t1 t2 t3) ?_
  intro l7 hf7
  refine st24 i l7 g la da L.length lc D.length dc kv ow (.pointer tg) w6 Q hf7 ?_
  intro l8 w8 C hf8 hB8 hs8 hE8 hN8 hC1 hC2 hob8
  have bk : ∀ k, kv.ownBlock = some k → k < w6.heap.size := fun k hk => (owns_lt hT6.keys k hk).2
  have bo : ∀ k, ow.ownBlock = some k → k < w6.heap.size := fun k hk => (owns_lt hT6.owns k hk).2
  generalize hs : w6.heap.size = s at *
  have hBw4 : Below w.heap.size w w4 := hBw3.trans (hB4.mono (hg ▸ hBw3.size))
  have hgw : w.heap.size ≤ g := hg ▸ hBw3.size
  have hg2 : w.heap.size + 2 ≤ g := by omega
  have hBw8 : Below w.heap.size w w8 := (hBw4.trans (hB46.mono (by omega))).trans (hB8.mono (by omega))
  have hlow : Below (w.heap.size + 2) w1 w8 := ((hB2.trans (hB3.mono hs2)).trans (hB4.mono hg2)).trans ((hB46.mono (by omega)).trans (hB8.mono (by omega)))
  refine st27 i l8 g la da L.length lc D.length dc kv ow (.pointer tg) _ _ (s + 2) o0 o1 o2 o3 z w8 Q hf8 h0 h1 h2 h3 (cellW hBw8 hz) (by rw [in0]; exact (hlow.block _ (by omega)).trans hb0) hob8 ?_
  intro l9 w9 v zz pt hf9 hB9 hob9 hzz
  have hs9 := hB9.size
  refine st28 i l9 g la da L.length lc D.length dc kv ow (.pointer tg) _ _ (s + 2) a0 a1 a2 a3 z w9 Q hf9 k0 k1 k2 k3 (cellW (hBw8.trans (hB9.mono (by omega))) hz) (by rw [in0]; exact ((hlow.trans (hB9.mono (by omega))).block _ (by omega)).trans hb1) ?_
  intro l10 w10 va ab hf10 hB10 hab hab10
  have hBw10 : Below w.heap.size w w10 := (hBw8.trans (hB9.mono (by omega))).trans (hB10.mono (by omega))
  refine st29 i l10 g la da L.length lc D.length dc kv ow (.pointer tg) _ _ _ (s + 2) z ps w w10 Q hf10 (cellW hBw10 hz) (by rw [isa, isl, isc]; exact hP) hBw10 (by omega) ?_
  intro l11 w11 sv hf11 hB11 hS11
  obtain ⟨xa, xl, xc, rfl⟩ := hS11.slice
  refine st31 i l11 g la da L.length lc D.length dc kv ow (.pointer tg) _ _ _ _ (s + 2) n w11 Q hf11 inp hn ?_
  intro l12 w12 pv hf12 hB12 hP12
  obtain ⟨ya, yl, yc, rfl⟩ := hP12.slice
  have s10 := hB10.size
  have s11 := hB11.size
  have s12 := hB12.size
  have b1012 : Below w10.heap.size w10 w12 := hB11.trans (hB12.mono s11)
  have b912 : Below w9.heap.size w9 w12 := hB10.trans (b1012.mono s10)
  have b812 : Below (s + 2) w8 w12 := hB9.trans (b912.mono (by omega))
  have b612 : Below s w6 w12 := hB8.trans (b812.mono (by omega))
  have b412 : Below (g + 8) w4 w12 := hB46.trans (b612.mono (by omega))
  refine hK ⟨i, g, s, ab, la, L.length, lc, da, D.length, dc, L, K, D, kv, ow, v, zz, pt, va, z, xa, xl, xc, ya, yl, yc⟩ tg l12 w12 ir ?_ ?_ hgw (hBw10.trans (b1012.mono (by omega))) t1 t2 t3 hf12
  · exact ⟨bL, bD, bk, bo, by simp only; omega, by simp only; omega, hzz, nd, mK, aD, by simp only; omega, lK, hDlen⟩
  · have e2 := hs ▸ b612
    exact ⟨hMade.below b412, RowIs.keep (rL.below (hg ▸ hB4)) (fun x hx => by have := bL x hx; omega) b412, RowIs.keep rD4 (fun x hx => by have := bD x hx; omega) b412,
      hM6.keep (b612.block _ (by omega)), ⟨owns_keep hT6.keys fun k hk => b612.block k (bk k hk), owns_keep hT6.owns fun k hk => b612.block k (bo k hk)⟩,
      (b812.block _ (by simp only; omega)).trans hE8, (cell_blk ((b812.block _ (by omega)).trans hN8) 23).trans hC1, (cell_blk ((b812.block _ (by omega)).trans hN8) 213).trans hC2,
      blk b912 hob9, blk b1012 hab10, (hS11.mono (by simp only; omega)).below hB12, hP12.mono (by simp only; omega)⟩


end Go.Proofs.YbulkdscsDoor
