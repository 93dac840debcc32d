/-
  The arguments as the row reads them, opened for the walk.
-/
import Derived.Test.YbulkdsbqH
import Derived.ProofKit
import Derived.SliceStrings
import Derived.Deep.Slices
import Derived.SizedLaws
namespace Go.Proofs.Ybulkdsbq
open Go.ChangeShapes Go.WideShapes Go.ChangeAt Go.RowKit

theorem list14 {l : List Value} (h : l.length = 14) : ∃ c0 c1 c2 c3 c4 c5 c6 c7 c8 c9 c10 c11 c12 c13, l = [c0, c1, c2, c3, c4, c5, c6, c7, c8, c9, c10, c11, c12, c13] := by
  match l, h with
  | [c0, c1, c2, c3, c4, c5, c6, c7, c8, c9, c10, c11, c12, c13], _ => exact ⟨c0, c1, c2, c3, c4, c5, c6, c7, c8, c9, c10, c11, c12, c13, rfl⟩

theorem Yba.cells9 : Yba.prog.cellsOf 9 = 1 := by kernel_rfl
theorem Yba.cells24 : Yba.prog.cellsOf 24 = 1 := by kernel_rfl
theorem Yba.cells4 : Yba.prog.cellsOf 4 = 1 := by kernel_rfl
theorem Yba.cells3 : Yba.prog.cellsOf 3 = 1 := by kernel_rfl
theorem Yba.cells2 : Yba.prog.cellsOf 2 = 1 := by kernel_rfl
theorem Yba.cells5 : Yba.prog.cellsOf 5 = 1 := by kernel_rfl
theorem Yba.cells46 : Yba.prog.cellsOf 46 = 14 := by kernel_rfl
theorem Yba.bytes9 : Yba.prog.bytesOf 9 = 16 := by kernel_rfl

theorem wf_i64 {n : Int} (h : (Lit.int .i64 n).wf = true) : -9223372036854775808 ≤ n ∧ n ≤ 9223372036854775807 := by
  simp [Lit.wf, IntKind.min, IntKind.max, IntKind.bits, IntKind.signed] at h
  omega
theorem wf_u8 {n : Int} (h : (Lit.int .u8 n).wf = true) : 0 ≤ n ∧ n ≤ 255 := by
  simp [Lit.wf, IntKind.min, IntKind.max, IntKind.bits, IntKind.signed] at h
  omega

theorem weights_all {H : Type} {P : Program} {e : TypeId} {d : DataW H} {q : Nat} : ∀ {ds : List (DataW H)}, d ∈ ds → q ∈ d.weights P e → q ∈ DataW.weightsAll P e ds
  | x :: r, hd, hq => by
    rw [DataW.weightsAll]
    rcases List.mem_cons.1 hd with rfl | hd
    · exact List.mem_append_left _ hq
    · exact List.mem_append_right _ (weights_all hd hq)

theorem open_elem {H : Type} {enc : TypeId × Value → H} {W : World} {fuel : Nat} {cs : List Value} {x : DataW H × List MemPlace} (h : DataW.trod enc Yba.prog W 0 (fun _ => true) true fuel 46 cs = some x)
    (hw : ∀ n ∈ x.1.weights Yba.prog 46, n ≤ reachBytes) : ∃ p : Ag, cs = p.e.cells p.s ∧ Good W p := by
  obtain ⟨xs, n, _, hx, hlen, hxl, hf⟩ := DataW.trod_struct Yba.underlying46 h
  rw [Yba.cells46] at hlen
  have hxl' : xs.length = 14 := hxl
  obtain ⟨c0, c1, c2, c3, c4, c5, c6, c7, c8, c9, c10, c11, c12, c13, rfl⟩ := list14 hlen
  have f0 : DataW.trod enc Yba.prog W 0 (fun _ => true) true n 9 [c0] = xs[0]? := by simpa [Yba.cells9] using hf 0 _ rfl
  have f1 : DataW.trod enc Yba.prog W 0 (fun _ => true) true n 9 [c1] = xs[1]? := by simpa [Yba.cells9] using hf 1 _ rfl
  have f2 : DataW.trod enc Yba.prog W 0 (fun _ => true) true n 24 [c2] = xs[2]? := by simpa [Yba.cells24] using hf 2 _ rfl
  have f3 : DataW.trod enc Yba.prog W 0 (fun _ => true) true n 9 [c3] = xs[3]? := by simpa [Yba.cells9] using hf 3 _ rfl
  have f4 : DataW.trod enc Yba.prog W 0 (fun _ => true) true n 9 [c4] = xs[4]? := by simpa [Yba.cells9] using hf 4 _ rfl
  have f5 : DataW.trod enc Yba.prog W 0 (fun _ => true) true n 9 [c5] = xs[5]? := by simpa [Yba.cells9] using hf 5 _ rfl
  have f6 : DataW.trod enc Yba.prog W 0 (fun _ => true) true n 4 [c6] = xs[6]? := by simpa [Yba.cells4] using hf 6 _ rfl
  have f7 : DataW.trod enc Yba.prog W 0 (fun _ => true) true n 3 [c7] = xs[7]? := by simpa [Yba.cells3] using hf 7 _ rfl
  have f8 : DataW.trod enc Yba.prog W 0 (fun _ => true) true n 9 [c8] = xs[8]? := by simpa [Yba.cells9] using hf 8 _ rfl
  have f9 : DataW.trod enc Yba.prog W 0 (fun _ => true) true n 9 [c9] = xs[9]? := by simpa [Yba.cells9] using hf 9 _ rfl
  have f10 : DataW.trod enc Yba.prog W 0 (fun _ => true) true n 2 [c10] = xs[10]? := by simpa [Yba.cells2] using hf 10 _ rfl
  have f11 : DataW.trod enc Yba.prog W 0 (fun _ => true) true n 9 [c11] = xs[11]? := by simpa [Yba.cells9] using hf 11 _ rfl
  have f12 : DataW.trod enc Yba.prog W 0 (fun _ => true) true n 2 [c12] = xs[12]? := by simpa [Yba.cells2] using hf 12 _ rfl
  have f13 : DataW.trod enc Yba.prog W 0 (fun _ => true) true n 5 [c13] = xs[13]? := by simpa [Yba.cells5] using hf 13 _ rfl
  have get : ∀ i, i < 14 → xs[i]? = some (xs.getD i (.nil, [])) := fun i hi => by
    rw [List.getElem?_eq_getElem (by omega)]; simp [List.getD, hxl', hi]
  obtain ⟨s0, e0, _, _⟩ := DataW.trod_string Yba.underlying9 (f0.trans (get 0 (by omega)))
  obtain ⟨s1, e1, _, _⟩ := DataW.trod_string Yba.underlying9 (f1.trans (get 1 (by omega)))
  obtain ⟨s3, e3, _, _⟩ := DataW.trod_string Yba.underlying9 (f3.trans (get 3 (by omega)))
  obtain ⟨s4, e4, _, _⟩ := DataW.trod_string Yba.underlying9 (f4.trans (get 4 (by omega)))
  obtain ⟨s5, e5, _, _⟩ := DataW.trod_string Yba.underlying9 (f5.trans (get 5 (by omega)))
  obtain ⟨b6, e6, _⟩ := DataW.trod_bool Yba.underlying4 (f6.trans (get 6 (by omega)))
  obtain ⟨n7, e7, _, _⟩ := DataW.trod_int Yba.underlying3 (f7.trans (get 7 (by omega)))
  obtain ⟨s8, e8, _, _⟩ := DataW.trod_string Yba.underlying9 (f8.trans (get 8 (by omega)))
  obtain ⟨s9, e9, _, _⟩ := DataW.trod_string Yba.underlying9 (f9.trans (get 9 (by omega)))
  obtain ⟨n10, e10, _, w10⟩ := DataW.trod_int Yba.underlying2 (f10.trans (get 10 (by omega)))
  obtain ⟨s11, e11, _, _⟩ := DataW.trod_string Yba.underlying9 (f11.trans (get 11 (by omega)))
  obtain ⟨n12, e12, _, w12⟩ := DataW.trod_int Yba.underlying2 (f12.trans (get 12 (by omega)))
  obtain ⟨n13, e13, _, w13⟩ := DataW.trod_int Yba.underlying5 (f13.trans (get 13 (by omega)))
  have hsl : ∃ (s : Sl) (ss : List ByteArray), c2 = .slice s.a s.l s.c ∧ ss.length * 16 ≤ 140737488351232 ∧ SelF W 0 (.slice s.a s.l s.c) ss := by
    rcases open_strings Yba.underlying24 Yba.underlying9 Yba.cells9 (f2.trans (get 2 (by omega))) with ⟨h1, _⟩ | ⟨a, len, cap, ss, h1, _, hl, _, hz, hxx, hcell, _⟩
    · simp at h1
      exact ⟨⟨none, 0, 0⟩, [], h1, by simp, .inl ⟨rfl, rfl⟩⟩
    · simp at h1
      simp only [if_true] at hz
      refine ⟨⟨some a, len, cap⟩, ss.take len, h1, ?_, .inr ⟨a, cap, by simp [hz, Nat.min_eq_left hl], Nat.zero_le _, fun i hi => ?_⟩⟩
      · have h2 : (xs.map (·.1))[2]? = some (.slice (strs (ss.take len)) (strs (ss.drop len))) := by rw [List.getElem?_map, get 2 (by omega), hxx]; rfl
        have h3 : ((strs (H := H) (ss.take len)).length + (strs (H := H) (ss.drop len)).length) * Yba.prog.bytesOf 9 ∈ x.1.weights Yba.prog 46 := by
          rw [hx]
          simp only [DataW.weights, Yba.underlying46]
          refine DataW.weights_mem_each (j := 2) (t := 24) rfl h2 _ ?_
          simp [DataW.weights, Yba.underlying24]
        have h4 := hw _ h3
        rw [Yba.bytes9] at h4
        simp only [strs, List.length_map, List.length_take, List.length_drop, reachBytes] at h4 ⊢
        omega
      · simp only [List.length_take] at hi
        have hil : i < len := by omega
        rw [hcell i (by omega)]
        simp [List.getD, hil]
  obtain ⟨s, ss, e2, hss, hsel⟩ := hsl
  simp only [List.cons.injEq, and_true] at e0 e1 e3 e4 e5 e6 e7 e8 e9 e10 e11 e12 e13
  subst e0 e1 e2 e3 e4 e5 e6 e7 e8 e9 e10 e11 e12 e13
  have := wf_i64 w10
  have := wf_i64 w12
  have := wf_u8 w13
  exact ⟨⟨⟨s0, s1, s3, s4, s5, b6, n7, s8, s9, n10, s11, n12, n13⟩, s, ss⟩, rfl, ⟨by simp; omega, by simp; omega, by simp; omega, by simp; omega, by simp; omega, by simp; omega, hss, hsel⟩⟩

theorem cells_range {W : World} {b o n : Nat} {cs : List Value} (h : W.cells? 0 ⟨b, o, none⟩ n = some cs) : W.rangeAt b o cs := by
  intro j v hv
  simp only [World.cells?, Nat.zero_le, if_true] at h
  have hl : cs.length = n := by simpa using mapM_some_length h
  have hj : j < n := by rw [← hl]; exact (List.getElem?_eq_some_iff.1 hv).1
  have := mapM_some_get h j j (by simp [hj])
  rw [Addr.add_mid] at this
  rw [this, hv]

set_option maxRecDepth 100000 in
theorem walk (a : Option Addr) (len cap : Nat) {H : Type} {enc : TypeId × Value → H} (w : World) {fuel : Nat} {x : DataW H × List MemPlace} (h : DataW.trod enc Yba.prog w 0 (fun _ => true) true fuel 22 [.slice a len cap] = some x)
    (hw : ∀ n ∈ x.1.weights Yba.prog 22, n ≤ reachBytes) : Calls Yba.prog 3 #[.slice a len cap] w fun e w' => e = .returned (.bool true) ∧ Below w.heap.size w w' := by
  rcases Go.Deep.open_slice Yba.underlying22 h with ⟨h1, _⟩ | ⟨y, len', cap', m, n, D, Pl, h1, _, hl, _, hm, hx, hel⟩
  · simp at h1
    obtain ⟨rfl, rfl, rfl⟩ := h1
    exact law_empty none 0 w
  · simp at h1
    obtain ⟨rfl, rfl, rfl⟩ := h1
    rw [Yba.cells46] at hel
    simp only [if_true] at hm
    by_cases h0 : len = 0
    · subst h0; exact law_empty _ _ w
    · have each : ∀ i, i < len → ∃ p : Ag, w.cells? 0 (y.add (i * 14)) 14 = some (p.e.cells p.s) ∧ Good w p := by
        intro i hi
        obtain ⟨cs', hc, ht⟩ := hel i (by omega)
        obtain ⟨p, hp, hg⟩ := open_elem ht (fun q hq => hw q (by
          rw [hx]
          simp only [DataW.weights, Yba.underlying22]
          refine List.mem_cons_of_mem _ (List.mem_append_left _ ?_)
          exact weights_all (List.mem_map.2 ⟨i, List.mem_range.2 hi, rfl⟩) hq))
        rw [hp] at hc
        exact ⟨p, hc, hg⟩
      have hy : y = ⟨y.block, y.off, none⟩ := by
        obtain ⟨p, hc, _⟩ := each 0 (by omega)
        simp only [World.cells?, Nat.zero_le, if_true] at hc
        have := mapM_some_get hc 0 0 (by simp)
        simp only [Nat.zero_mul, Addr.add, if_true, El.cells] at this
        have hsp := World.cell?_spot (w := w) (a := y) this
        cases y; simp_all
      have ne : Nonempty Ag := ⟨(each 0 (by omega)).choose⟩
      obtain ⟨f, hf⟩ : ∃ f : Nat → Ag, ∀ i, i < len → w.cells? 0 (y.add (i * 14)) 14 = some ((f i).e.cells (f i).s) ∧ Good w (f i) := by
        refine ⟨fun i => if hi : i < len then (each i hi).choose else Classical.choice ne, fun i hi => ?_⟩
        simp only [dif_pos hi]
        exact (each i hi).choose_spec
      have hbw : y.block < w.heap.size := by
        have h2 := (hf 0 (by omega)).1
        simp only [World.cells?, Nat.zero_le, if_true] at h2
        have := mapM_some_get h2 0 0 (by simp)
        simp only [Nat.zero_mul, Addr.add, if_true, El.cells] at this
        exact World.block_lt_of_cell? w y this
      rw [hy]
      refine law_any ((List.range len).map f) len y.block y.off cap w (by simp) (by omega) hbw (fun j p hp => ?_) (fun p hp => ?_)
      · simp only [List.getElem?_map, Option.map_eq_some_iff] at hp
        obtain ⟨j', hj', rfl⟩ := hp
        have hjl : j < len := by
          have := (List.getElem?_eq_some_iff.1 hj').1
          simpa using this
        have : j' = j := by simpa [hjl] using hj'.symm
        subst this
        have h2 := (hf j' hjl).1
        rw [hy, Addr.add_mid] at h2
        exact cells_range h2
      · simp only [List.mem_map, List.mem_range] at hp
        obtain ⟨j, hj, rfl⟩ := hp
        exact (hf j hj).2

end Go.Proofs.Ybulkdsbq
