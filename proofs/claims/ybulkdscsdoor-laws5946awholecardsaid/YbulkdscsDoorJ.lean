import Derived.Test.YbulkdscsDoorI
namespace Go.Proofs.YbulkdscsDoor
open Go.RowKit
set_option maxRecDepth 100000
set_option maxHeartbeats 2000000

theorem owns_keep {w w' : World} {base : Nat} {e : TypeId} {size : Nat} {v : Value} {n : Nat} {xs : List Value} (h : w.ownsRow base e size v n xs) (hk : ∀ k, v.ownBlock = some k → w'.heap[k]? = w.heap[k]?) : w'.ownsRow base e size v n xs := by
  refine ⟨h.1, h.2.imp id ?_⟩
  rintro ⟨g, cap, cur, rfl, h2, h3, h4⟩
  exact ⟨g, cap, cur, rfl, h2, by rw [hk g rfl]; exact h3, h4⟩
theorem owns_slice {w : World} {base : Nat} {e : TypeId} {size : Nat} {v : Value} {n : Nat} {xs : List Value} (h : w.ownsRow base e size v n xs) : ∃ a c, v = .slice a n c := by
  rcases h.2 with ⟨rfl, rfl⟩ | ⟨g, cap, _, rfl, _⟩
  · exact ⟨_, _, rfl⟩
  · exact ⟨_, _, rfl⟩
theorem owns_lt {w : World} {base : Nat} {e : TypeId} {size : Nat} {v : Value} {n : Nat} {xs : List Value} (h : w.ownsRow base e size v n xs) (k : Nat) (hk : v.ownBlock = some k) : base ≤ k ∧ k < w.heap.size := by
  rcases h.2 with ⟨rfl, rfl⟩ | ⟨g, cap, _, rfl, h1, h2, _⟩
  · cases hk
  · cases hk
    exact ⟨h1, (Array.getElem?_eq_some_iff.1 h2).1⟩

theorem st6 (i : In) (l : List Value) (kn : Bool) (lv ev : Value) (n : Nat) (xs : List Int) (base : Nat) (w : World) (Q : Exit → Act → World → Prop)
    (hf : Fr l (i.fr [(3, ev), (25, .bool kn), (27, lv)])) (ho : w.ownsRow base 22 1 lv n (xs.map (.int .u32 ·))) (hn : n = xs.length) (hb : base ≤ w.heap.size) (hl : n ≤ 4096)
    (hK : ∀ l' w' lv', Fr l' (i.fr [(3, ev), (27, lv')]) → w'.ownsRow base 22 1 lv' (xs ++ if kn then [i.r] else []).length ((xs ++ if kn then [i.r] else []).map (.int .u32 ·)) → Below base w w' → base ≤ w'.heap.size → (dropS 7 (bodyOf Ybad.f3)).wp Ybad.prog Q ⟨l'.toArray, []⟩ w') :
    (dropS 6 (bodyOf Ybad.f3)).wp Ybad.prog Q ⟨l.toArray, []⟩ w := by
  refine cut _ 6 1 7 rfl ?_
  generalize dropS 7 (bodyOf Ybad.f3) = Y at hK ⊢
  obtain ⟨u, hu⟩ : ∃ u : Nat → Value, ∀ n, l.getD n (.bool false) = u n := ⟨_, fun _ => rfl⟩
  have hlen := hf.len
  simp only [In.fr, Fr, hu] at hf
  obtain ⟨h0, h1, h4, h6, h8, h9, h10, h11, h17, h19, h26, h3, h25, h27, -⟩ := hf
  have HK := Hid.mk hK
  clear hK
  rw [frame_lit l hlen u hu, h0, h1, h4, h6, h8, h9, h10, h11, h17, h19, h26, h3, h25, h27]
  clear hu hlen h0 h1 h4 h6 h8 h9 h10 h11 h17 h19 h26 h3 h25 h27
  clear l
  conv => arg 2; whnf
  have HO := Hid.mk ho
  have HN := Hid.mk hn
  clear ho hn
  cases kn with
  | false =>
    go_wp2
    exact HK.out _ _ lv ⟨rfl, rfl, rfl, rfl, rfl, rfl, rfl, rfl, rfl, rfl, rfl, rfl, rfl, rfl⟩ (by simpa [← HN.out] using HO.out) (Below.refl _ _) hb
  | true =>
    go_wp2_with (at_builtin; go_must (refine wpList_append_row rfl _ _ rfl base _ _ _ rfl (HO.out.alloc _) _ [i.r] rfl (row_one w i.r) (by simp; omega) (by simp; omega) ?_); intro v2 w2 ho2 hg2)
    have hB : Below base w w2 := ((Below.refl _ _).alloc hb _).grown hg2 (by simp; omega) (fun k hk => (HO.out.lt k hk).1)
    refine HK.out _ _ v2 ⟨rfl, rfl, rfl, rfl, rfl, rfl, rfl, rfl, rfl, rfl, rfl, rfl, rfl, rfl⟩ (by simpa [← HN.out] using ho2) hB ?_
    have := hg2.size
    simp at this
    omega

theorem foldD_len (L : List Int) : ∀ (E ds : List Int), (E.foldl (addD L) ds).length ≤ ds.length + E.length
  | [], ds => by simp
  | x :: E, ds => by
    have h1 := foldD_len L E (addD L ds x)
    have h2 := addD_len L ds x
    simp only [List.foldl_cons, List.length_cons]
    omega

theorem st7 (i : In) (l : List Value) (ea : Option Addr) (el ec : Nat) (lv : Value) (L es : List Int) (base : Nat) (w0 w : World) (Q : Exit → Act → World → Prop)
    (hf : Fr l (i.fr [(3, .slice ea el ec), (27, lv)])) (ho : w.ownsRow base 22 1 lv L.length (L.map (.int .u32 ·))) (hE : RowIs .u32 w0 (.slice ea el ec) es) (hB : Below w0.heap.size w0 w) (hel : es.length ≤ 4096) (hLl : L.length ≤ 4097)
    (hK : ∀ l' w' dv, Fr l' (i.fr [(27, lv), (28, dv)]) → Below w.heap.size w w' → w'.ownsRow w.heap.size 22 1 dv (rest L es).length ((rest L es).map (.int .u32 ·)) → (dropS 9 (bodyOf Ybad.f3)).wp Ybad.prog Q ⟨l'.toArray, []⟩ w') :
    (dropS 7 (bodyOf Ybad.f3)).wp Ybad.prog Q ⟨l.toArray, []⟩ w := by
  obtain ⟨la, lc, rfl⟩ := owns_slice ho
  refine cut _ 7 2 9 rfl ?_
  generalize dropS 9 (bodyOf Ybad.f3) = Y at hK ⊢
  obtain ⟨u, hu⟩ : ∃ u : Nat → Value, ∀ n, l.getD n (.bool false) = u n := ⟨_, fun _ => rfl⟩
  have hlen := hf.len
  simp only [In.fr, Fr, hu] at hf
  obtain ⟨h0, h1, h4, h6, h8, h9, h10, h11, h17, h19, h26, h3, h27, -⟩ := hf
  have HK := Hid.mk hK
  clear hK
  rw [frame_lit l hlen u hu, h0, h1, h4, h6, h8, h9, h10, h11, h17, h19, h26, h3, h27]
  clear hu hlen h0 h1 h4 h6 h8 h9 h10 h11 h17 h19 h26 h3 h27
  clear l
  conv => arg 2; whnf; arg 2; whnf
  have hlen : el = es.length := by
    rcases hE with ⟨h1, h2⟩ | ⟨x, c, h1, h2⟩
    · cases h1; rw [h2]; rfl
    · cases h1; rfl
  subst hlen
  have HE := Hid.mk (hE.below hB)
  have HL := Hid.mk (row_of_owns ho)
  clear ho hE hB
  go_wp2
  go_loopw [28, 99] (fun dv j wr => ∃ k : Nat, k ≤ es.length ∧ j = .int .i64 k ∧ Below w.heap.size w wr ∧ wr.ownsRow w.heap.size 22 1 dv ((es.take k).foldl (addD L) []).length (((es.take k).foldl (addD L) []).map (.int .u32 ·))) (fun _ j _ => es.length - (intOf j).toNat)
  case atStart => exact ⟨0, Nat.zero_le _, rfl, Below.refl _ _, World.ownsRow_nil _ _ _ _⟩
  case round =>
    obtain ⟨k, hk, rfl, hBr, hor⟩ := hrel
    have hDl : ((es.take k).foldl (addD L) []).length ≤ 4096 := by
      have := foldD_len L (es.take k) []
      simp only [List.length_take, List.length_nil] at this
      omega
    obtain ⟨da, dc, rfl⟩ := owns_slice hor
    by_cases hlt : k < es.length
    · obtain ⟨b, off, hea, hcell⟩ : ∃ b off, ea = some ⟨b, off, none⟩ ∧ wr.cell? ⟨b, off + k, none⟩ = some (.int .u32 (es.getD k 0)) := by
        rcases HE.out.below hBr with ⟨h1, h2⟩ | ⟨x, c, h1, h2⟩
        · rw [h2] at hlt; exact absurd hlt (by simp)
        · obtain ⟨b, off, rfl, h3⟩ := row_at h2 (by omega)
          cases h1
          exact ⟨b, off, rfl, h3 k hlt⟩
      subst hea
      have hfold := foldl_take_succ (addD L) [] es k hlt
      generalize hy : es.getD k 0 = y at hcell hfold
      generalize hds : ((es.take k).foldl (addD L) []) = ds at hor hDl hfold
      have HF := Hid.mk hfold
      have HO := Hid.mk hor
      have HLr := Hid.mk (HL.out.below hBr)
      have HDr := Hid.mk (row_of_owns hor)
      have HBr := Hid.mk hBr
      have hsz := hBr.size
      obtain ⟨bl, hbl⟩ : ∃ b, decide (y ∈ L) = b := ⟨_, rfl⟩
      obtain ⟨bd, hbd⟩ : ∃ b, decide (y ∈ ds) = b := ⟨_, rfl⟩
      have HBL := Hid.mk hbl
      have HBD := Hid.mk hbd
      clear hy hds hfold hor hBr hbl hbd
      cases bl with
      | true =>
        go_wp2_with (go_at_call 4; refine (contains_any la _ lc L y wr (by omega) HLr.out).mono ?_; rw [HBL.out]; rintro e w' ⟨rfl, rfl⟩)
        go_roundw
        case rel =>
          refine ⟨k + 1, by omega, by go_num, HBr.out, ?_⟩
          rw [HF.out, addD, if_pos (.inl (of_decide_eq_true HBL.out))]
          exact HO.out
        case measure => simp [intOf]; omega
      | false =>
        cases bd with
        | true =>
          go_wp2_with (go_at_call 4; first | (refine (contains_any la _ lc L y wr (by omega) HLr.out).mono ?_; rw [HBL.out]; rintro e w' ⟨rfl, rfl⟩) | (refine (contains_any da _ dc ds y wr (by omega) HDr.out).mono ?_; rw [HBD.out]; rintro e w' ⟨rfl, rfl⟩))
          go_roundw
          case rel =>
            refine ⟨k + 1, by omega, by go_num, HBr.out, ?_⟩
            rw [HF.out, addD, if_pos (.inr (of_decide_eq_true HBD.out))]
            exact HO.out
          case measure => simp [intOf]; omega
        | false =>
          go_wp2_with (first | (go_at_call 4; first | (refine (contains_any la _ lc L y wr (by omega) HLr.out).mono ?_; rw [HBL.out]; rintro e w' ⟨rfl, rfl⟩) | (refine (contains_any da _ dc ds y wr (by omega) HDr.out).mono ?_; rw [HBD.out]; rintro e w' ⟨rfl, rfl⟩)) | (at_builtin; go_must (refine wpList_append_row rfl _ _ rfl w.heap.size _ _ _ rfl (HO.out.alloc _) _ [y] rfl (row_one wr y) (by simp; omega) (by simp; omega) ?_); intro v2 w2 ho2 hg2))
          go_roundw
          case rel =>
            refine ⟨k + 1, by omega, by go_num, (HBr.out.alloc hsz _).grown hg2 (by simp; omega) (fun k hk => (HO.out.lt k hk).1), ?_⟩
            rw [HF.out, addD, if_neg (fun h => h.elim (of_decide_eq_false HBL.out) (of_decide_eq_false HBD.out))]
            simpa using ho2
          case measure => simp [intOf]; omega
    · have hke : k = es.length := by omega
      subst hke
      have HO := Hid.mk hor
      have HBr := Hid.mk hBr
      clear hor hBr
      go_wp2
      exact HK.out _ _ _ ⟨rfl, rfl, rfl, rfl, rfl, rfl, rfl, rfl, rfl, rfl, rfl, rfl, rfl, rfl⟩ HBr.out (by have h := HO.out; simp only [List.take_length] at h ⊢; exact h)

end Go.Proofs.YbulkdscsDoor
