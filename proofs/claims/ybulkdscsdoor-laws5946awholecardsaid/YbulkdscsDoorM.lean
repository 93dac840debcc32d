import Derived.Test.YbulkdscsDoorL
namespace Go.Proofs.YbulkdscsDoor
open Go.RowKit
set_option maxRecDepth 100000
set_option maxHeartbeats 2000000

theorem nodup_at {K D : List Int} (h : (K ++ D).Nodup) (k : Nat) (hk : k < D.length) : D.getD k 0 ∉ K ∧ D.getD k 0 ∉ D.take k := by
  rw [List.nodup_append] at h
  obtain ⟨h1, h2, h3⟩ := h
  have he : D.getD k 0 = D[k] := by simp [hk]
  rw [he]
  refine ⟨fun hm => h3 _ hm _ (List.getElem_mem hk) rfl, fun hm => ?_⟩
  obtain ⟨j, hj, hje⟩ := List.mem_iff_getElem.1 hm
  have hjk : j < k := by simp at hj; omega
  rw [List.getElem_take] at hje
  exact List.pairwise_iff_getElem.1 h2 j k (by omega) hk hjk hje
theorem take_at {D : List Int} (k : Nat) (hk : k < D.length) : D.take (k + 1) = D.take k ++ [D.getD k 0] := by
  rw [List.take_add_one]; simp [hk]

theorem st21 (i : In) (l : List Value) (g : Nat) (la da : Option Addr) (ll lc dl dc : Nat) (K D : List Int) (kv ow : Value) (w : World) (Q : Exit → Act → World → Prop)
    (hf : Fr l (i.fr (mid g la ll lc da dl dc [(40, kv), (41, ow)]))) (hR : RowIs .u32 w (.slice da dl dc) D) (hLb : ∀ x, da = some x → x.block < g + 8) (hM : MapIs w (g + 8) (K.map (·, .pointer (some ⟨g + 6, 0, none⟩)))) (hT : TwoRows (g + 8 + 1) kv ow K (K.map fun _ => .pointer (some ⟨g + 6, 0, none⟩)) w) (hKl : K.length ≤ 4097) (hDl : D.length ≤ 4096) (hnd : (K ++ D).Nodup)
    (hK : ∀ l' w' kv ow, Fr l' (i.fr (mid g la ll lc da dl dc [(40, kv), (41, ow)])) → Below (g + 8) w w' → MapIs w' (g + 8) (pairs K D (.pointer (some ⟨g + 6, 0, none⟩)) (.pointer (some ⟨g + 7, 0, none⟩))) → TwoRows (g + 8 + 1) kv ow (K ++ D) (K.map (fun _ => (.pointer (some ⟨g + 6, 0, none⟩) : Value)) ++ D.map fun _ => (.pointer (some ⟨g + 7, 0, none⟩) : Value)) w' → (dropS 22 (bodyOf Ybad.f3)).wp Ybad.prog Q ⟨l'.toArray, []⟩ w') :
    (dropS 21 (bodyOf Ybad.f3)).wp Ybad.prog Q ⟨l.toArray, []⟩ w := by
  refine cut _ 21 1 22 rfl ?_
  generalize dropS 22 (bodyOf Ybad.f3) = Y at hK ⊢
  obtain ⟨u, hu⟩ : ∃ u : Nat → Value, ∀ n, l.getD n (.bool false) = u n := ⟨_, fun _ => rfl⟩
  have hlen := hf.len
  simp only [In.fr, mid, Fr, hu] at hf
  obtain ⟨h0, h1, h4, h6, h8, h9, h10, h11, h17, h19, h26, h27, h28, h31, h32, h33, h34, h35, h36, h37, h38, h39, h40, h41, -⟩ := hf
  have HK := Hid.mk hK
  clear hK
  rw [frame_lit l hlen u hu, h0, h1, h4, h6, h8, h9, h10, h11, h17, h19, h26, h27, h28, h31, h32, h33, h34, h35, h36, h37, h38, h39, h40, h41]
  clear hu hlen h0 h1 h4 h6 h8 h9 h10 h11 h17 h19 h26 h27 h28 h31 h32 h33 h34 h35 h36 h37 h38 h39 h40 h41
  clear l
  conv => arg 2; whnf; arg 2; whnf
  have hlen := RowIs.len hR
  subst hlen
  have HR := Hid.mk hR
  have HLb := Hid.mk hLb
  have HM := Hid.mk hM
  have HT := Hid.mk hT
  have HN := Hid.mk hnd
  clear hR hLb hM hT hnd
  go_wp2
  go_loopw [40, 41, 153] (fun kv ow j wr => ∃ k : Nat, k ≤ D.length ∧ j = .int .i64 k ∧ Below (g + 8) w wr ∧ MapIs wr (g + 8) (pairs K (D.take k) (.pointer (some ⟨g + 6, 0, none⟩)) (.pointer (some ⟨g + 7, 0, none⟩))) ∧ TwoRows (g + 8 + 1) kv ow (K ++ D.take k) (K.map (fun _ => (.pointer (some ⟨g + 6, 0, none⟩) : Value)) ++ (D.take k).map fun _ => (.pointer (some ⟨g + 7, 0, none⟩) : Value)) wr) (fun _ _ j _ => D.length - (intOf j).toNat)
  case atStart => exact ⟨0, Nat.zero_le _, rfl, Below.refl _ _, by simpa [pairs] using HM.out, by simpa using HT.out⟩
  case round =>
    obtain ⟨k, hk, rfl, hBr, hMr, hTr⟩ := hrel
    by_cases hlt : k < D.length
    · obtain ⟨b, off, hea, hcell⟩ := RowIs.at (RowIs.keep HR.out HLb.out hBr) k hlt
      subst hea
      have hDk : (K ++ D.take k).length ≤ 8193 := by simp; omega
      have hfold := take_at k hlt
      have hnn := nodup_at HN.out k hlt
      generalize hy : D.getD k 0 = y at hcell hfold hnn
      generalize hds : D.take k = ds at hMr hTr hDk hfold hnn
      generalize hks : K ++ ds = ks at hTr hDk
      generalize hos : (K.map (fun _ => (.pointer (some ⟨g + 6, 0, none⟩) : Value)) ++ ds.map fun _ => (.pointer (some ⟨g + 7, 0, none⟩) : Value)) = os at hTr
      obtain ⟨ka, kc, rfl⟩ := owns_slice hTr.keys
      obtain ⟨oa, oc, rfl⟩ := owns_slice hTr.owns
      have HF := Hid.mk hfold
      have HNN := Hid.mk hnn
      have HMr := Hid.mk hMr
      have HTr := Hid.mk hTr
      have HBr := Hid.mk hBr
      have HKS := Hid.mk hks
      have HOS := Hid.mk hos
      have hsz := hMr.lt
      clear hy hds hfold hMr hTr hBr hnn hks hos
      go_wp2_with (first
        | (at_mapUpdate; go_must (refine wpList_put rfl _ _ _ rfl (g + 8) rfl y rfl (.pointer (some ⟨g + 7, 0, none⟩)) rfl _ HMr.out ?_); intro w1 hb1 hm1; have hs1 := hm1.lt; have HB1 := Hid.mk hb1; have HM1 := Hid.mk hm1; have HT1 := Hid.mk (HTr.out.but hb1); clear hb1 hm1)
        | (at_builtin; refine wpList_append_row rfl _ _ rfl (g + 8 + 1) _ _ _ rfl (HT1.out.keys.alloc _) _ [y] rfl (row_one w1 y) (by simp; omega) (by simp; omega) ?_; intro v2 w2 ho2 hg2; have hs2 := hg2.size; rw [World.size_alloc] at hs2; have HO2 := Hid.mk ho2; have HG2 := Hid.mk hg2; have HW2 := Hid.mk (other_row HT1.out ho2 hg2); clear ho2 hg2)
        | (at_builtin; go_must (refine wpList_append_ptr rfl _ _ rfl (g + 8 + 1) _ _ _ rfl (HW2.out.1.alloc _) w2.heap.size (some ⟨g + 7, 0, none⟩) rfl (by simp) (by omega) (by simp; omega) ?_); intro v3 w3 ho3 hg3; have HO3 := Hid.mk ho3; have HG3 := Hid.mk hg3; clear ho3 hg3))
      go_roundw
      case rel =>
        obtain ⟨t1, t2, t3⟩ := two_appends HT1.out HM1.out (by simpa using HO2.out) HG2.out (by simpa using HO3.out) HG3.out HW2.out.2
        refine ⟨k + 1, by omega, by go_num, (HBr.out.trans (HB1.out.below (by omega))).trans t1, ?_, ?_⟩
        · rw [HF.out, ← put_d y _ _ HNN.out.1 HNN.out.2]; exact t2
        · rw [HF.out, List.map_append, ← List.append_assoc, ← List.append_assoc, HKS.out, HOS.out]; exact t3
      case measure => simp [intOf]; omega
    · have hke : k = D.length := by omega
      subst hke
      simp only [List.take_length] at hMr hTr
      have HMr := Hid.mk hMr
      have HTr := Hid.mk hTr
      have HBr := Hid.mk hBr
      clear hMr hTr hBr
      go_wp2
      exact HK.out _ _ _ _ ⟨rfl, rfl, rfl, rfl, rfl, rfl, rfl, rfl, rfl, rfl, rfl, rfl, rfl, rfl, rfl, rfl, rfl, rfl, rfl, rfl, rfl, rfl, rfl, rfl, rfl⟩ HBr.out HMr.out HTr.out


end Go.Proofs.YbulkdscsDoor
