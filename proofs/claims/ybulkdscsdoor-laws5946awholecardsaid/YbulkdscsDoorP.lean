import Derived.Test.YbulkdscsDoorO
namespace Go.Proofs.YbulkdscsDoor
open Go.RowKit
set_option maxRecDepth 100000
set_option maxHeartbeats 2000000

theorem RowIs.lenq {q : IntKind} {w : World} {a : Option Addr} {n c : Nat} {zs : List Int} (h : RowIs q w (.slice a n c) zs) : n = zs.length := by
  rcases h with ⟨h1, h2⟩ | ⟨x, c, h1, h2⟩
  · cases h1; rw [h2]; rfl
  · cases h1; rfl
theorem RowIs.atq {q : IntKind} {w : World} {a : Option Addr} {n c : Nat} {zs : List Int} (h : RowIs q w (.slice a n c) zs) (k : Nat) (hk : k < zs.length) : ∃ b off, a = some ⟨b, off, none⟩ ∧ w.cell? ⟨b, off + k, none⟩ = some (.int q (zs.getD k 0)) := by
  rcases h with ⟨h1, h2⟩ | ⟨x, c, h1, h2⟩
  · rw [h2] at hk; exact absurd hk (by simp)
  · obtain ⟨b, off, rfl, h3⟩ := row_at h2 (by omega)
    cases h1
    exact ⟨b, off, rfl, h3 k hk⟩

theorem info41 : ∃ i, Ybad.prog.info? 41 = some i ∧ i.zero = some (.agg #[.int .u64 0, .int .u64 0, .int .u32 0, .int .u64 0, .int .u64 0, .pointer none, .int .u16 0]) ∧ i.size = 7 ∧ i.bytes ≤ 1000 := by
  have h : (Ybad.prog.info? 41).map (fun i => (i.zero, i.size, decide (i.bytes ≤ 1000))) = some (some (.agg #[.int .u64 0, .int .u64 0, .int .u32 0, .int .u64 0, .int .u64 0, .pointer none, .int .u16 0]), 7, true) := by kernel_rfl
  cases hi : Ybad.prog.info? 41 with
  | none => rw [hi] at h; cases h
  | some i =>
    rw [hi] at h
    simp only [Option.map_some, Option.some.injEq, Prod.mk.injEq, decide_eq_true_eq] at h
    exact ⟨i, rfl, h.1, h.2.1, h.2.2⟩
theorem info30 : ∃ i, Ybad.prog.info? 30 = some i ∧ i.zero = some (.agg #[.int .u64 0, .int .u64 0, .int .u32 0]) ∧ i.size = 3 ∧ i.bytes ≤ 1000 := by
  have h : (Ybad.prog.info? 30).map (fun i => (i.zero, i.size, decide (i.bytes ≤ 1000))) = some (some (.agg #[.int .u64 0, .int .u64 0, .int .u32 0]), 3, true) := by kernel_rfl
  cases hi : Ybad.prog.info? 30 with
  | none => rw [hi] at h; cases h
  | some i =>
    rw [hi] at h
    simp only [Option.map_some, Option.some.injEq, Prod.mk.injEq, decide_eq_true_eq] at h
    exact ⟨i, rfl, h.1, h.2.1, h.2.2⟩

theorem set7 (A : Array Value) (o : Nat) (x0 x1 x2 x3 x4 x5 x6 : Value) (h : o + 7 ≤ A.size) :
    (((((((A.setIfInBounds o x0).setIfInBounds (o + 1) x1).setIfInBounds (o + 2) x2).setIfInBounds (o + 3) x3).setIfInBounds (o + 4) x4).setIfInBounds (o + 5) x5).setIfInBounds (o + 6) x6).size = A.size ∧ (∀ t, t < o ∨ o + 7 ≤ t → (((((((A.setIfInBounds o x0).setIfInBounds (o + 1) x1).setIfInBounds (o + 2) x2).setIfInBounds (o + 3) x3).setIfInBounds (o + 4) x4).setIfInBounds (o + 5) x5).setIfInBounds (o + 6) x6)[t]? = A[t]?) ∧ ∀ j v, [x0, x1, x2, x3, x4, x5, x6][j]? = some v → (((((((A.setIfInBounds o x0).setIfInBounds (o + 1) x1).setIfInBounds (o + 2) x2).setIfInBounds (o + 3) x3).setIfInBounds (o + 4) x4).setIfInBounds (o + 5) x5).setIfInBounds (o + 6) x6)[o + j]? = some v := by
  refine ⟨by simp, fun t ht => ?_, fun j v hj => ?_⟩
  · have n0 : o ≠ t := by omega
    have n1 : o + 1 ≠ t := by omega
    have n2 : o + 2 ≠ t := by omega
    have n3 : o + 3 ≠ t := by omega
    have n4 : o + 4 ≠ t := by omega
    have n5 : o + 5 ≠ t := by omega
    have n6 : o + 6 ≠ t := by omega
    simp [n0, n1, n2, n3, n4, n5, n6]
  · have hj7 : j < 7 := by
      have := (List.getElem?_eq_some_iff.1 hj).1
      simpa using this
    have k0 : o < A.size := by omega
    have k1 : o + 1 < A.size := by omega
    have k2 : o + 2 < A.size := by omega
    have k3 : o + 3 < A.size := by omega
    have k4 : o + 4 < A.size := by omega
    have k5 : o + 5 < A.size := by omega
    have k6 : o + 6 < A.size := by omega
    match j, hj7, hj with
    | 0, _, hj => cases hj; simp [k0]
    | 1, _, hj => cases hj; simp [k1]
    | 2, _, hj => cases hj; simp [k2]
    | 3, _, hj => cases hj; simp [k3]
    | 4, _, hj => cases hj; simp [k4]
    | 5, _, hj => cases hj; simp [k5]
    | 6, _, hj => cases hj; simp [k6]

/-- The peers that the law builds. -/
def SuccsIs (B : Nat) (w : World) (sv : Value) : Prop :=
  sv = .slice none 0 0 ∨ ∃ b n c, sv = .slice (some ⟨b, 0, none⟩) n c ∧ n ≤ 65536 ∧ B ≤ b ∧ b < w.heap.size ∧ ∀ j, j < n → ∃ v z pt, w.rangeAt b (j * 7) [.int .u64 0, .int .u64 0, .int .u32 0, .int .u64 0, .int .u64 v, .pointer (some z), .int .u16 pt]

theorem st29 (i : In) (l : List Value) (g : Nat) (la da : Option Addr) (ll lc dl dc : Nat) (kv ow tv ev nv av : Value) (ob : Nat) (z : Addr) (ps : List Int) (w0 w : World) (Q : Exit → Act → World → Prop)
    (hf : Fr l (i.fr (mid g la ll lc da dl dc [(40, kv), (41, ow), (46, tv), (48, ev), (49, nv), (50, .pointer (some ⟨ob, 0, none⟩)), (51, av)]))) (hz : w.cell? ⟨0, 0, none⟩ = some (.pointer (some z))) (hP : RowIs .u16 w0 (.slice i.sa i.sl i.sc) ps) (hB : Below w0.heap.size w0 w) (hsl : ps.length ≤ 65536)
    (hK : ∀ l' w' sv, Fr l' (i.fr (mid g la ll lc da dl dc [(40, kv), (41, ow), (46, tv), (48, ev), (49, nv), (50, .pointer (some ⟨ob, 0, none⟩)), (51, av), (52, sv)])) → Below w.heap.size w w' → SuccsIs w.heap.size w' sv → (dropS 31 (bodyOf Ybad.f3)).wp Ybad.prog Q ⟨l'.toArray, []⟩ w') :
    (dropS 29 (bodyOf Ybad.f3)).wp Ybad.prog Q ⟨l.toArray, []⟩ w := by
  have hslen := RowIs.lenq hP
  obtain ⟨r, fl, wait, op, ap, np, sa, sl, sc, tx, n0, ov⟩ := i
  simp only at hP hslen
  refine cut _ 29 2 31 rfl ?_
  generalize dropS 31 (bodyOf Ybad.f3) = Y at hK ⊢
  obtain ⟨u, hu⟩ : ∃ u : Nat → Value, ∀ n, l.getD n (.bool false) = u n := ⟨_, fun _ => rfl⟩
  have hlen := hf.len
  simp only [In.fr, mid, Fr, hu] at hf
  obtain ⟨h0, h1, h4, h6, h8, h9, h10, h11, h17, h19, h26, h27, h28, h31, h32, h33, h34, h35, h36, h37, h38, h39, h40, h41, h46, h48, h49, h50, h51, -⟩ := hf
  have HK := Hid.mk hK
  clear hK
  rw [frame_lit l hlen u hu, h0, h1, h4, h6, h8, h9, h10, h11, h17, h19, h26, h27, h28, h31, h32, h33, h34, h35, h36, h37, h38, h39, h40, h41, h46, h48, h49, h50, h51]
  clear hu hlen h0 h1 h4 h6 h8 h9 h10 h11 h17 h19 h26 h27 h28 h31 h32 h33 h34 h35 h36 h37 h38 h39 h40 h41 h46 h48 h49 h50 h51
  clear l
  conv => arg 2; whnf; arg 2; whnf; arg 2; whnf
  cases sa with
  | none =>
    rcases hP with ⟨h1, h2⟩ | ⟨x, c, h1, h2⟩
    · cases h1
      clear hslen hz hB
      go_wp2
      exact HK.out _ _ (.slice none 0 0) ⟨rfl, rfl, rfl, rfl, rfl, rfl, rfl, rfl, rfl, rfl, rfl, rfl, rfl, rfl, rfl, rfl, rfl, rfl, rfl, rfl, rfl, rfl, rfl, rfl, rfl, rfl, rfl, rfl, rfl, rfl, rfl⟩ (Below.refl _ _) (.inl rfl)
    · cases h1
  | some sa =>
    subst hslen
    obtain ⟨i0, hi, hz0, hz1, hz2⟩ := info41
    have hbb : (i0.bytes : Int) * (ps.length : Int) ≤ 281474976710656 := by
      have h1 := Nat.mul_le_mul hz2 hsl
      have h : ((i0.bytes * ps.length : Nat) : Int) ≤ 281474976710656 := by omega
      rwa [Int.natCast_mul] at h
    have hmk := run_make (P := Ybad.prog) w 42 41 i0 _ Ybad.underlying42 hi hz0 .i64 .i64 ps.length ps.length (by omega) (by omega) hbb (by omega)
    simp only [Int.toNat_natCast, hz1] at hmk
    generalize hA0 : madeCells (Value.agg #[.int .u64 0, .int .u64 0, .int .u32 0, .int .u64 0, .int .u64 0, .pointer none, .int .u16 0]).cells (ps.length * 7) = A0 at hmk
    have hA0s : A0.size = ps.length * 7 := by rw [← hA0, size_madeCells]
    have HP := Hid.mk (hP.below hB)
    have HA0 := Hid.mk hA0s
    have HZ := Hid.mk hz
    have hw0 : 0 < w.heap.size := World.block_lt_of_cell? w _ hz
    clear hP hB hA0 hA0s hz hi hz0 hz1 hz2 hbb
    go_wp2
    clear hmk
    go_loopw [204] (fun j wr => ∃ k : Nat, k ≤ ps.length ∧ j = .int .i64 k ∧ Below w.heap.size w wr ∧ ∃ A, wr.heap[w.heap.size]? = some (.cells A 41 (0, 0)) ∧ A.size = ps.length * 7 ∧ ∀ j', j' < k → ∃ v z pt, ∀ t x, ([.int .u64 0, .int .u64 0, .int .u32 0, .int .u64 0, .int .u64 v, .pointer (some z), .int .u16 pt] : List Value)[t]? = some x → A[j' * 7 + t]? = some x) (fun j _ => ps.length - (intOf j).toNat)
    case atStart => exact ⟨0, Nat.zero_le _, rfl, (Below.refl _ _).alloc (Nat.le_refl _) _, A0, heap_new _ _, HA0.out, fun j' hj => absurd hj (by omega)⟩
    case round =>
      obtain ⟨k, hk, rfl, hBr, A, hA, hAs, hAll⟩ := hrel
      have zs : w.heap.size < wr.heap.size := (Array.getElem?_eq_some_iff.1 hA).1
      by_cases hlt : k < ps.length
      · obtain ⟨b, off, hea, hcell⟩ := RowIs.atq (HP.out.below hBr) k hlt
        cases hea
        generalize hy : ps.getD k 0 = y at hcell
        obtain ⟨o, ho⟩ : ∃ o, k * 7 = o := ⟨_, rfl⟩
        have HZr := Hid.mk ((hBr.cell (p := ⟨0, 0, none⟩) hw0).trans HZ.out)
        have HBr := Hid.mk hBr
        have HA := Hid.mk hA
        have HAs := Hid.mk hAs
        have HAll := Hid.mk hAll
        have hoA : o + 7 ≤ A.size := by omega
        clear hy hBr hA hAs hAll
        go_wp2_with (first
          | (go_at_call 9; go_must (refine (from4_any 10 0 0 1 z wr (by decide) (by decide) (by decide) (by decide) (by decide) (by decide) (by decide) (by decide) HZr.out).mono ?_); rintro e w1 ⟨v1, rfl, hb1⟩; have HB1 := Hid.mk hb1; clear hb1)
          | (go_at_call 8; go_must (refine (port_any v1 z y w1).mono ?_); rintro e w2 ⟨rfl, hb2⟩; have HB2 := Hid.mk (HB1.out.trans (hb2.mono HB1.out.size)); have HA2 := Hid.mk ((HB2.out.block _ zs).trans HA.out); have d2 := cell_blk HA2.out; have f2 := free_blk HA2.out; have q0 := Array.getElem?_eq_getElem (show o < A.size by omega); have q1 := Array.getElem?_eq_getElem (show o + 1 < A.size by omega); have q2 := Array.getElem?_eq_getElem (show o + 2 < A.size by omega); have q3 := Array.getElem?_eq_getElem (show o + 3 < A.size by omega); have q4 := Array.getElem?_eq_getElem (show o + 4 < A.size by omega); have q5 := Array.getElem?_eq_getElem (show o + 5 < A.size by omega); have q6 := Array.getElem?_eq_getElem (show o + 6 < A.size by omega); clear hb2))
        go_roundw
        case rel =>
          have hB2 : Below w.heap.size w w2 := HBr.out.trans (HB2.out.mono (Nat.le_of_lt zs))
          obtain ⟨s1, s2, s3⟩ := set7 A o (.int .u64 0) (.int .u64 0) (.int .u32 0) (.int .u64 0) (.int .u64 v1) (.pointer (some z)) (.int .u16 y) hoA
          refine ⟨k + 1, by omega, by go_num, (((((((hB2.setCell (p := ⟨w.heap.size, o, none⟩) (Nat.le_refl _) _).setCell (p := ⟨w.heap.size, (o + 1), none⟩) (Nat.le_refl _) _).setCell (p := ⟨w.heap.size, (o + 2), none⟩) (Nat.le_refl _) _).setCell (p := ⟨w.heap.size, (o + 3), none⟩) (Nat.le_refl _) _).setCell (p := ⟨w.heap.size, (o + 4), none⟩) (Nat.le_refl _) _).setCell (p := ⟨w.heap.size, (o + 5), none⟩) (Nat.le_refl _) _).setCell (p := ⟨w.heap.size, (o + 6), none⟩) (Nat.le_refl _) _), _, (hs_same (hs_same (hs_same (hs_same (hs_same (hs_same (hs_same HA2.out o (.int .u64 0)) (o + 1) (.int .u64 0)) (o + 2) (.int .u32 0)) (o + 3) (.int .u64 0)) (o + 4) (.int .u64 v1)) (o + 5) (.pointer (some z))) (o + 6) (.int .u16 y)), s1.trans HAs.out, fun j' hj => ?_⟩
          by_cases hjk : j' = k
          · subst hjk
            exact ⟨v1, z, y, fun t x hx => by rw [ho]; exact s3 t x hx⟩
          · obtain ⟨v, z', pt, hv⟩ := HAll.out j' (by omega)
            refine ⟨v, z', pt, fun t x hx => ?_⟩
            have ht : t < 7 := by
              have := (List.getElem?_eq_some_iff.1 hx).1
              simpa using this
            rw [s2 _ (.inl (by omega))]
            exact hv t x hx
        case measure => simp [intOf]; omega
      · have hke : k = ps.length := by omega
        subst hke
        have HBr := Hid.mk hBr
        have HA := Hid.mk hA
        have HAll := Hid.mk hAll
        clear hBr hA hAll hAs
        go_wp2
        refine HK.out _ _ _ ⟨rfl, rfl, rfl, rfl, rfl, rfl, rfl, rfl, rfl, rfl, rfl, rfl, rfl, rfl, rfl, rfl, rfl, rfl, rfl, rfl, rfl, rfl, rfl, rfl, rfl, rfl, rfl, rfl, rfl, rfl, rfl⟩ HBr.out (.inr ⟨_, _, _, rfl, hsl, Nat.le_refl _, zs, fun j hj => ?_⟩)
        obtain ⟨v, z', pt, hv⟩ := HAll.out j hj
        exact ⟨v, z', pt, fun t x hx => (cell_blk HA.out _).trans (hv t x hx)⟩


end Go.Proofs.YbulkdscsDoor
