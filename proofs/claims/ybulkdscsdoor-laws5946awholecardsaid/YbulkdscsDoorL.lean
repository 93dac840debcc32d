import Derived.Test.YbulkdscsDoorK
namespace Go.Proofs.YbulkdscsDoor
open Go.RowKit
set_option maxRecDepth 100000
set_option maxHeartbeats 2000000

variable {ops : Array Oper} {rest : List Oper} {o : Oper} {a : Act} {w : World} {Q : Exit → Act → World → Prop} in
/-- m[k] = v. -/
theorem wpList_put (hg : o.guard = none) (m x y : Operand) (hop : o.op = Op.mapUpdate 54 m x y)
    (b : Nat) (hm : a.eval m = .map (some b)) (k : Int) (hx : a.eval x = .int .u32 k) (v : Value) (hy : a.eval y = v) (l : List (Int × Value)) (hl : MapIs w b l)
    (hK : ∀ w', But [b] w w' → MapIs w' b (putP k v l) → wpList Ybad.prog ops Q rest (a.put o.dst undef) w') :
    wpList Ybad.prog ops Q (o :: rest) a w := by
  refine wpList_plain hg fun K' hK' => ?_
  obtain ⟨ob, hrun, r1⟩ := run_put hl k v
  unfold Oper.wp
  simp [execOp, hop, hm, hx, hy, hrun, Result.andThen]
  show K' (a.put o.dst undef) (ChangeMaps.setBlock w b ob)
  refine hK' _ _ (hK _ ⟨rfl, rfl, rfl, by simp [ChangeMaps.setBlock], fun i _ hn => ?_⟩ r1)
  have : b ≠ i := fun e => hn (by simp [e])
  simp [ChangeMaps.setBlock, this]

variable {ops : Array Oper} {rest : List Oper} {o : Oper} {a : Act} {w : World} {Q : Exit → Act → World → Prop} in
/-- append(v, p) of a pointer. -/
theorem wpList_append_ptr (hgd : o.guard = none) (s x : Operand) (ho : o.op = .call { callee := .builtin .append, args := #[s, x], argTypes := #[55, 55] })
    (base : Nat) (v : Value) (n : Nat) (xs : List Value) (hs : a.eval s = v) (hown : w.ownsRow base 46 1 v n xs) (b : Nat) (p : Option Addr) (hx : a.eval x = .slice (some ⟨b, 0, none⟩) 1 1) (hc : w.cell? ⟨b, 0, none⟩ = some (.pointer p))
    (hb : n ≤ 1000000) (hbase : base ≤ w.heap.size)
    (h : ∀ v' w', w'.ownsRow base 46 1 v' (n + 1) (xs ++ [.pointer p]) → w.grownBy w' v.ownBlock → wpList Ybad.prog ops Q rest (a.put o.dst v') w') : wpList Ybad.prog ops Q (o :: rest) a w := by
  obtain ⟨i0, hi, hz0, hz1, hz2⟩ := info_parts Ybad.info46
  refine wpList_append_own w hgd s x 55 ho base 46 i0 _ 1 8 Ybad.underlying55 hi hz0 hz1 hz2 rfl (by decide) v n xs hs hown ⟨b, 0, none⟩ 1 1 [.pointer p] hx rfl ?_ ?_ ?_ ?_ hbase fun v' w' k1 k2 _ => h v' w' k1 k2
  · intro j u hj
    cases j with
    | zero => cases hj; exact hc
    | succ j => simp at hj
  · intro u hu
    simp only [List.mem_singleton] at hu
    subst hu
    rfl
  · simp only [maxLen]; omega
  · omega

/-- The rows 'keys' and 'kOwner'. -/
structure TwoRows (B : Nat) (kv ow : Value) (K : List Int) (os : List Value) (w : World) : Prop where
  keys : w.ownsRow B 22 1 kv K.length (K.map (.int .u32 ·))
  owns : w.ownsRow B 46 1 ow K.length os

theorem owns_apart {B B' : Nat} {kv ow : Value} {n m : Nat} {xs ys : List Value} {w : World} (h : w.ownsRow B 22 1 kv n xs) (h' : w.ownsRow B' 46 1 ow m ys) (x : Nat) (h1 : kv.ownBlock = some x) (h2 : ow.ownBlock = some x) : False := by
  rcases h.2 with ⟨k1, _⟩ | ⟨g, cap, cur, k1, _, k2, _⟩
  · rw [k1] at h1; cases h1
  · rcases h'.2 with ⟨m1, _⟩ | ⟨g', cap', cur', m1, _, m2, _⟩
    · rw [m1] at h2; cases h2
    · rw [k1] at h1
      rw [m1] at h2
      cases h1
      cases h2
      rw [k2] at m2
      cases m2

theorem TwoRows.but {M : Nat} {kv ow : Value} {K : List Int} {os : List Value} {w w' : World} (h : TwoRows (M + 1) kv ow K os w) (hb : But [M] w w') : TwoRows (M + 1) kv ow K os w' :=
  ⟨owns_keep h.keys fun k hk => by have := owns_lt h.keys k hk; exact hb.block k this.2 (by simp; omega), owns_keep h.owns fun k hk => by have := owns_lt h.owns k hk; exact hb.block k this.2 (by simp; omega)⟩

theorem RowIs.keep {w w' : World} {B : Nat} {a : Option Addr} {n c : Nat} {zs : List Int} (h : RowIs .u32 w (.slice a n c) zs) (hb : ∀ x, a = some x → x.block < B) (hB : Below B w w') : RowIs .u32 w' (.slice a n c) zs := by
  rcases h with ⟨h1, h2⟩ | ⟨x, c, h1, h2⟩
  · exact .inl ⟨h1, h2⟩
  · refine .inr ⟨x, c, h1, fun i hi => ?_⟩
    rw [← h2 i hi]
    cases h1
    exact hB.cell (by rw [add_block]; exact hb x rfl)
theorem RowIs.len {w : World} {a : Option Addr} {n c : Nat} {zs : List Int} (h : RowIs .u32 w (.slice a n c) zs) : n = zs.length := by
  rcases h with ⟨h1, h2⟩ | ⟨x, c, h1, h2⟩
  · cases h1; rw [h2]; rfl
  · cases h1; rfl
theorem RowIs.at {w : World} {a : Option Addr} {n c : Nat} {zs : List Int} (h : RowIs .u32 w (.slice a n c) zs) (k : Nat) (hk : k < zs.length) : ∃ b off, a = some ⟨b, off, none⟩ ∧ w.cell? ⟨b, off + k, none⟩ = some (.int .u32 (zs.getD k 0)) := by
  rcases h with ⟨h1, h2⟩ | ⟨x, c, h1, h2⟩
  · rw [h2] at hk; exact absurd hk (by simp)
  · obtain ⟨b, off, rfl, h3⟩ := row_at h2 (by omega)
    cases h1
    exact ⟨b, off, rfl, h3 k hk⟩
theorem But.below {M : Nat} {w w' : World} (h : But [M] w w') (hM : M ≤ w.heap.size) : Below M w w' := ⟨h.os, h.tape, h.output, h.size, fun k hk => h.block k (by omega) (by simp; omega)⟩
theorem MapIs.keep {w w' : World} {b : Nat} {m : List (Int × Value)} (h : MapIs w b m) (hb : w'.heap[b]? = w.heap[b]?) : MapIs w' b m := by
  obtain ⟨es, c, h1, h2⟩ := h
  exact ⟨es, c, by rw [hb]; exact h1, h2⟩
theorem MapIs.lt {w : World} {b : Nat} {m : List (Int × Value)} (h : MapIs w b m) : b < w.heap.size := by
  obtain ⟨es, c, h1, h2⟩ := h
  exact (Array.getElem?_eq_some_iff.1 h1).1

/-- What the two appends of a round leave. -/
theorem two_appends {M : Nat} {kv ow kv' ow' : Value} {K : List Int} {os : List Value} {m : List (Int × Value)} {w w1 w2 : World} {o1 o2 : Obj} {y : Int} {p : Value} (hR : TwoRows (M + 1) kv ow K os w) (hM : MapIs w M m)
    (h1 : w1.ownsRow (M + 1) 22 1 kv' (K.length + 1) (K.map (.int .u32 ·) ++ [.int .u32 y])) (g1 : (w.alloc o1).grownBy w1 kv.ownBlock)
    (h2 : w2.ownsRow (M + 1) 46 1 ow' (K.length + 1) (os ++ [p])) (g2 : (w1.alloc o2).grownBy w2 ow.ownBlock) (hap : ∀ k, kv'.ownBlock = some k → ow.ownBlock ≠ some k) :
    Below M w w2 ∧ MapIs w2 M m ∧ TwoRows (M + 1) kv' ow' (K ++ [y]) (os ++ [p]) w2 := by
  have hMl := hM.lt
  have s1 := g1.size
  have s2 := g2.size
  simp only [World.size_alloc] at s1 s2
  have b1 : Below (M + 1) w w1 := ((Below.refl _ _).alloc (by omega) _).grown g1 (by simp; omega) (fun k hk => (owns_lt hR.keys k hk).1)
  have b2 : Below (M + 1) w1 w2 := ((Below.refl _ _).alloc (by omega) _).grown g2 (by simp; omega) (fun k hk => (owns_lt hR.owns k hk).1)
  have b := b1.trans b2
  refine ⟨b.mono (by omega), hM.keep (b.block M (by omega)), ?_, ?_⟩
  · have : w2.ownsRow (M + 1) 22 1 kv' (K.length + 1) (K.map (.int .u32 ·) ++ [.int .u32 y]) := owns_keep h1 fun k hk => by
      have hl := (owns_lt h1 k hk).2
      rw [g2.block k (by simp; omega) (fun e => hap k hk e.symm), Below.heap_alloc _ _ _ hl]
    simpa using this
  · simpa using h2

theorem other_row {B : Nat} {kv ow kv' : Value} {K : List Int} {os ys : List Value} {m : Nat} {w w2 : World} {ob : Obj} (hT : TwoRows B kv ow K os w) (h2 : w2.ownsRow B 22 1 kv' m ys) (hg : (w.alloc ob).grownBy w2 kv.ownBlock) :
    w2.ownsRow B 46 1 ow K.length os ∧ ∀ k, kv'.ownBlock = some k → ow.ownBlock ≠ some k := by
  have h1 : w2.ownsRow B 46 1 ow K.length os := owns_keep hT.owns fun k hk => by
    have hl := (owns_lt hT.owns k hk).2
    rw [hg.block k (by simp; omega) (fun e => owns_apart hT.keys hT.owns k e.symm hk), Below.heap_alloc _ _ _ hl]
  exact ⟨h1, fun k hk hk' => owns_apart h2 h1 k hk hk'⟩

/-- The frame's slots between the making of the lookups and the end. -/
def mid (g : Nat) (la : Option Addr) (ll lc : Nat) (da : Option Addr) (dl dc : Nat) (more : List (Nat × Value)) : List (Nat × Value) :=
  (27, .slice la ll lc) :: (28, .slice da dl dc) :: (31, .pointer (some ⟨g, 0, none⟩)) :: (32, .pointer (some ⟨g + 1, 0, none⟩)) :: (33, .pointer (some ⟨g + 2, 0, none⟩)) :: (34, .pointer (some ⟨g + 3, 0, none⟩)) :: (35, .pointer (some ⟨g + 4, 0, none⟩)) :: (36, .pointer (some ⟨g + 5, 0, none⟩)) :: (37, .pointer (some ⟨g + 6, 0, none⟩)) :: (38, .pointer (some ⟨g + 7, 0, none⟩)) :: (39, .map (some (g + 8))) :: more

theorem foldK_len : ∀ (E ds : List Int), (E.foldl addK ds).length ≤ ds.length + E.length
  | [], ds => by simp
  | x :: E, ds => by
    have h1 := foldK_len E (addK ds x)
    have h2 := addK_len ds x
    simp only [List.foldl_cons, List.length_cons]
    omega

theorem st20 (i : In) (l : List Value) (g : Nat) (la da : Option Addr) (ll lc dl dc : Nat) (L : List Int) (w : World) (Q : Exit → Act → World → Prop)
    (hf : Fr l (i.fr (mid g la ll lc da dl dc [(40, .slice none 0 0), (41, .slice none 0 0)]))) (hR : RowIs .u32 w (.slice la ll lc) L) (hLb : ∀ x, la = some x → x.block < g + 8) (hM : MapIs w (g + 8) []) (hLl : L.length ≤ 4097)
    (hK : ∀ l' w' kv ow, Fr l' (i.fr (mid g la ll lc da dl dc [(40, kv), (41, ow)])) → Below (g + 8) w w' → MapIs w' (g + 8) ((dedup L).map (·, .pointer (some ⟨g + 6, 0, none⟩))) → TwoRows (g + 8 + 1) kv ow (dedup L) ((dedup L).map fun _ => .pointer (some ⟨g + 6, 0, none⟩)) w' → (dropS 21 (bodyOf Ybad.f3)).wp Ybad.prog Q ⟨l'.toArray, []⟩ w') :
    (dropS 20 (bodyOf Ybad.f3)).wp Ybad.prog Q ⟨l.toArray, []⟩ w := by
  refine cut _ 20 1 21 rfl ?_
  generalize dropS 21 (bodyOf Ybad.f3) = Y at hK ⊢
  obtain ⟨u, hu⟩ : ∃ u : Nat → Value, ∀ n, l.getD n (.bool false) = u n := ⟨_, fun _ => rfl⟩
  have hlen := hf.len
  simp only [In.fr, mid, Fr, hu] at hf
  obtain ⟨h0, h1, h4, h6, h8, h9, h10, h11, h17, h19, h26, h27, h28, h31, h32, h33, h34, h35, h36, h37, h38, h39, h40, h41, -⟩ := hf
  have HK := Hid.mk hK
  clear hK
  rw [frame_lit l hlen u hu, h0, h1, h4, h6, h8, h9, h10, h11, h17, h19, h26, h27, h28, h31, h32, h33, h34, h35, h36, h37, h38, h39, h40, h41]
  clear hu hlen h0 h1 h4 h6 h8 h9 h10 h11 h17 h19 h26 h27 h28 h31 h32 h33 h34 h35 h36 h37 h38 h39 h40 h41
  clear l
  conv => arg 2; whnf; arg 2; whnf
  have hlen := RowIs.len hR
  subst hlen
  have HR := Hid.mk hR
  have HLb := Hid.mk hLb
  have HM := Hid.mk hM
  clear hR hLb hM
  go_wp2
  go_loopw [40, 41, 131] (fun kv ow j wr => ∃ k : Nat, k ≤ L.length ∧ j = .int .i64 k ∧ Below (g + 8) w wr ∧ MapIs wr (g + 8) (((L.take k).foldl addK []).map (·, .pointer (some ⟨g + 6, 0, none⟩))) ∧ TwoRows (g + 8 + 1) kv ow ((L.take k).foldl addK []) (((L.take k).foldl addK []).map fun _ => .pointer (some ⟨g + 6, 0, none⟩)) wr) (fun _ _ j _ => L.length - (intOf j).toNat)
  case atStart => exact ⟨0, Nat.zero_le _, rfl, Below.refl _ _, HM.out, World.ownsRow_nil _ _ _ _, World.ownsRow_nil _ _ _ _⟩
  case round =>
    obtain ⟨k, hk, rfl, hBr, hMr, hTr⟩ := hrel
    obtain ⟨ka, kc, rfl⟩ := owns_slice hTr.keys
    obtain ⟨oa, oc, rfl⟩ := owns_slice hTr.owns
    by_cases hlt : k < L.length
    · obtain ⟨b, off, hea, hcell⟩ := RowIs.at (RowIs.keep HR.out HLb.out hBr) k hlt
      subst hea
      have hDl : ((L.take k).foldl addK []).length ≤ 4097 := by
        have := foldK_len (L.take k) []
        simp only [List.length_take, List.length_nil] at this
        omega
      have hfold := foldl_take_succ addK [] L k hlt
      generalize hy : L.getD k 0 = y at hcell hfold
      generalize hds : ((L.take k).foldl addK []) = ks at hMr hTr hDl hfold
      have HF := Hid.mk hfold
      have HMr := Hid.mk hMr
      have HTr := Hid.mk hTr
      have HBr := Hid.mk hBr
      have hsz := hMr.lt
      obtain ⟨bk, hbk⟩ : ∃ b, decide (y ∈ ks) = b := ⟨_, rfl⟩
      have HBK := Hid.mk hbk
      clear hy hds hfold hMr hTr hBr hbk
      cases bk with
      | true =>
        go_wp2_with (first | (at_mapUpdate; go_must (refine wpList_put rfl _ _ _ rfl (g + 8) rfl y rfl (.pointer (some ⟨g + 6, 0, none⟩)) rfl _ HMr.out ?_); intro w1 hb1 hm1; have HB1 := Hid.mk hb1; have HM1 := Hid.mk hm1; have HT1 := Hid.mk (HTr.out.but hb1); clear hb1 hm1) | (go_at_call 4; refine (contains_any ka _ kc ks y w1 (by omega) (row_of_owns HT1.out.keys)).mono ?_; rw [HBK.out]; rintro e w' ⟨rfl, rfl⟩))
        go_roundw
        case rel =>
          have hmem : y ∈ ks := of_decide_eq_true HBK.out
          have hadd : addK ks y = ks := if_pos hmem
          refine ⟨k + 1, by omega, by go_num, HBr.out.trans (HB1.out.below (by omega)), ?_, ?_⟩
          · rw [HF.out, ← put_l]; exact HM1.out
          · rw [HF.out, hadd]; exact HT1.out
        case measure => simp [intOf]; omega
      | false =>
        go_wp2_with (first
          | (at_mapUpdate; go_must (refine wpList_put rfl _ _ _ rfl (g + 8) rfl y rfl (.pointer (some ⟨g + 6, 0, none⟩)) rfl _ HMr.out ?_); intro w1 hb1 hm1; have hs1 := hm1.lt; have HB1 := Hid.mk hb1; have HM1 := Hid.mk hm1; have HT1 := Hid.mk (HTr.out.but hb1); clear hb1 hm1)
          | (go_at_call 4; refine (contains_any ka _ kc ks y w1 (by omega) (row_of_owns HT1.out.keys)).mono ?_; rw [HBK.out]; rintro e w' ⟨rfl, rfl⟩)
          | (at_builtin; refine wpList_append_row rfl _ _ rfl (g + 8 + 1) _ _ _ rfl (HT1.out.keys.alloc _) _ [y] rfl (row_one w1 y) (by simp; omega) (by simp; omega) ?_; intro v2 w2 ho2 hg2; have hs2 := hg2.size; rw [World.size_alloc] at hs2; have HO2 := Hid.mk ho2; have HG2 := Hid.mk hg2; have HW2 := Hid.mk (other_row HT1.out ho2 hg2); clear ho2 hg2)
          | (at_builtin; go_must (refine wpList_append_ptr rfl _ _ rfl (g + 8 + 1) _ _ _ rfl (HW2.out.1.alloc _) w2.heap.size (some ⟨g + 6, 0, none⟩) rfl (by simp) (by omega) (by simp; omega) ?_); intro v3 w3 ho3 hg3; have HO3 := Hid.mk ho3; have HG3 := Hid.mk hg3; clear ho3 hg3))
        go_roundw
        case rel =>
          have hmem : y ∉ ks := of_decide_eq_false HBK.out
          have hadd : addK ks y = ks ++ [y] := if_neg hmem
          obtain ⟨t1, t2, t3⟩ := two_appends HT1.out HM1.out (by simpa using HO2.out) HG2.out (by simpa using HO3.out) HG3.out HW2.out.2
          refine ⟨k + 1, by omega, by go_num, (HBr.out.trans (HB1.out.below (by omega))).trans t1, ?_, ?_⟩
          · rw [HF.out, ← put_l]; exact t2
          · rw [HF.out, hadd]; simpa using t3
        case measure => simp [intOf]; omega
    · have hke : k = L.length := by omega
      subst hke
      have HMr := Hid.mk hMr
      have HTr := Hid.mk hTr
      have HBr := Hid.mk hBr
      clear hMr hTr hBr
      go_wp2
      exact HK.out _ _ _ _ ⟨rfl, rfl, rfl, rfl, rfl, rfl, rfl, rfl, rfl, rfl, rfl, rfl, rfl, rfl, rfl, rfl, rfl, rfl, rfl, rfl, rfl, rfl, rfl, rfl, rfl⟩ HBr.out (by have h := HMr.out; simp only [List.take_length] at h ⊢; exact h) (by have h := HTr.out; simp only [List.take_length] at h ⊢; exact h)


end Go.Proofs.YbulkdscsDoor
