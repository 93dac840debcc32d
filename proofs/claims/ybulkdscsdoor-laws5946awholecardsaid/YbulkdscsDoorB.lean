/-
  Contracts: slices.Index (7), slices.Contains (4) at []uint32; AddrFrom4 (9), AddrPortFrom (8); IsZero (13).
-/
import Derived.Test.YbulkdscsDoorA
import Derived.Laws.BitsAllLaws
import Derived.LaidEql
import Derived.Laws.Pointers
namespace Go.Proofs.YbulkdscsDoor
open Go.RowKit

/-- The slice value v reads, in world w, as the integers zs of kind q. -/
def RowIs (q : IntKind) (w : World) (v : Value) (zs : List Int) : Prop :=
  (v = .slice none 0 0 ∧ zs = []) ∨
  ∃ x c, v = .slice (some x) zs.length c ∧ ∀ i, i < zs.length → w.cell? (x.add i) = some (.int q (zs.getD i 0))

theorem RowIs.below {q : IntKind} {w w' : World} {v : Value} {zs : List Int} (h : RowIs q w v zs) (hb : Below w.heap.size w w') : RowIs q w' v zs := by
  rcases h with h | ⟨x, c, h1, h2⟩
  · exact .inl h
  · refine .inr ⟨x, c, h1, fun i hi => ?_⟩
    have := h2 i hi
    rw [hb.cell (World.block_lt_of_cell? w _ this)]; exact this

theorem row_at {q : IntKind} {w : World} {a : Addr} {zs : List Int} (h : ∀ i, i < zs.length → w.cell? (a.add i) = some (.int q (zs.getD i 0))) (hp : 0 < zs.length) :
    ∃ b off, a = ⟨b, off, none⟩ ∧ ∀ j, j < zs.length → w.cell? ⟨b, off + j, none⟩ = some (.int q (zs.getD j 0)) := by
  obtain ⟨b, off, spot⟩ := a
  have hspot : spot = none := by simpa [Addr.add] using World.cell?_spot (h 0 hp)
  subst hspot
  exact ⟨b, off, rfl, fun j hj => by rw [← Go.WideShapes.add_plain]; exact h j hj⟩

theorem ret_int {k : IntKind} {a b : Int} (h : a = b) : Ending.returned (.int k a) = .returned (.int k b) := by rw [h]

/-- slices.Index. -/
def idx (x : Int) (zs : List Int) : Int := if x ∈ zs then (zs.idxOf x : Int) else -1

theorem idx_hit {x : Int} {zs : List Int} {k : Nat} (hk : k < zs.length) (h : zs.getD k 0 = x) (hb : ∀ j, j < k → zs.getD j 0 ≠ x) : idx x zs = k := by
  have hx : zs[k] = x := by simpa [List.getD, hk] using h
  have hm : x ∈ zs := by rw [← hx]; exact List.getElem_mem _
  unfold idx
  rw [if_pos hm]
  have h1 : zs.idxOf x < zs.length := List.idxOf_lt_length_of_mem hm
  have h2 : zs[zs.idxOf x] = x := List.getElem_idxOf h1
  rcases Nat.lt_trichotomy (zs.idxOf x) k with h3 | h3 | h3
  · exact absurd (by simp [List.getD, h1]) (hb _ h3)
  · omega
  · have := List.not_of_lt_findIdx (p := (· == x)) (xs := zs) (i := k) h3
    simp [hx] at this

theorem idx_miss {x : Int} {zs : List Int} (hb : ∀ j, j < zs.length → zs.getD j 0 ≠ x) : idx x zs = -1 := by
  unfold idx
  rw [if_neg]
  intro hm
  obtain ⟨j, hj, he⟩ := List.mem_iff_getElem.1 hm
  exact hb j hj (by simpa [List.getD, hj] using he)

set_option maxHeartbeats 400000 in
theorem index_empty (y : Option Addr) (c : Nat) (x : Int) (w : World) : Calls Ybad.prog 7 #[.slice y 0 c, .int .u32 x] w fun e w' => e = .returned (.int .i64 (-1)) ∧ w = w' := by
  go_enter Ybad.func7, Ybad.ntmps7
  go_wp2
  refine wp_loop_rounds 1 ?_
  rw [rounds_succ]
  go_wp2
  go_ret
  exact ⟨rfl, rfl⟩

set_option maxHeartbeats 400000 in
theorem index_some (b o c : Nat) (zs : List Int) (x : Int) (w : World) (hl : zs.length ≤ 9223372036854775806) (hc : ∀ j, j < zs.length → w.cell? ⟨b, o + j, none⟩ = some (.int .u32 (zs.getD j 0))) :
    Calls Ybad.prog 7 #[.slice (some ⟨b, o, none⟩) zs.length c, .int .u32 x] w fun e w' => e = .returned (.int .i64 (idx x zs)) ∧ w = w' := by
  have HC := Hid.mk hc
  clear hc
  go_enter Ybad.func7, Ybad.ntmps7
  go_wp2
  go_loop [8] (fun i => ∃ k : Nat, k ≤ zs.length ∧ i = .int .i64 k ∧ ∀ j, j < k → zs.getD j 0 ≠ x) (fun i => zs.length - (intOf i).toNat)
  case atStart => exact ⟨0, Nat.zero_le _, rfl, fun j hj => absurd hj (Nat.not_lt_zero _)⟩
  case round =>
    obtain ⟨k, hk, rfl, hb⟩ := hrel
    have HB := Hid.mk hb
    clear hb
    by_cases hlt : k < zs.length
    · have c1 := HC.out k hlt
      obtain ⟨z, hz⟩ : ∃ z, zs.getD k 0 = z := ⟨_, rfl⟩
      rw [hz] at c1
      have HZ := Hid.mk hz
      clear hz
      by_cases he : x = z
      · subst he
        go_wp2
        go_ret
        exact ⟨ret_int (idx_hit hlt HZ.out HB.out).symm, rfl⟩
      · have he' : (x == z) = false := by simpa using he
        go_wp2
        go_round
        case rel => exact ⟨k + 1, by omega, by go_num, fun j hj => by
          rcases Nat.lt_succ_iff_lt_or_eq.1 hj with h | rfl
          · exact HB.out j h
          · rw [HZ.out]; exact fun e => he e.symm⟩
        case measure => simp [intOf]; omega
    · go_wp2
      go_ret
      exact ⟨ret_int (idx_miss (fun j hj => HB.out j (by omega))).symm, rfl⟩

theorem index_any (v : Value) (zs : List Int) (x : Int) (w : World) (hl : zs.length ≤ 9223372036854775806) (h : RowIs .u32 w v zs) :
    Calls Ybad.prog 7 #[v, .int .u32 x] w fun e w' => e = .returned (.int .i64 (idx x zs)) ∧ w = w' := by
  rcases h with ⟨rfl, rfl⟩ | ⟨y, c, rfl, h⟩
  · rw [idx_miss (by simp)]; exact index_empty _ _ _ _
  · by_cases h0 : 0 < zs.length
    · obtain ⟨b, o, rfl, hc⟩ := row_at h h0
      exact index_some b o c zs x w hl hc
    · have hn : zs = [] := List.length_eq_zero_iff.1 (by omega)
      subst hn
      rw [idx_miss (by simp)]; exact index_empty _ _ _ _

theorem idx_range (x : Int) (zs : List Int) : -1 ≤ idx x zs ∧ idx x zs < zs.length ∨ idx x zs = -1 := by
  unfold idx
  split
  · rename_i h; have := List.idxOf_lt_length_of_mem h; left; omega
  · right; rfl

set_option maxHeartbeats 400000 in
theorem contains_any (a : Option Addr) (l c : Nat) (zs : List Int) (x : Int) (w : World) (hl : zs.length ≤ 9223372036854775806) (h : RowIs .u32 w (.slice a l c) zs) :
    Calls Ybad.prog 4 #[.slice a l c, .int .u32 x] w fun e w' => e = .returned (.bool (decide (x ∈ zs))) ∧ w = w' := by
  have H := Hid.mk h
  clear h
  go_enter Ybad.func4, Ybad.ntmps4
  go_wp2_with (go_at_call 7; refine (index_any _ zs _ _ hl H.out).mono ?_; rintro e w' ⟨rfl, rfl⟩)
  go_ret
  refine ⟨?_, rfl⟩
  unfold idx
  by_cases hm : x ∈ zs
  · simp [hm]
  · simp [hm]

set_option maxHeartbeats 1000000 in
theorem from4_any (a0 a1 a2 a3 : Int) (z : Addr) (w : World) (h0 : 0 ≤ a0) (h0' : a0 ≤ 255) (h1 : 0 ≤ a1) (h1' : a1 ≤ 255) (h2 : 0 ≤ a2) (h2' : a2 ≤ 255) (h3 : 0 ≤ a3) (h3' : a3 ≤ 255) (hz : w.cell? ⟨0, 0, none⟩ = some (.pointer (some z))) :
    Calls Ybad.prog 9 #[.agg #[.int .u8 a0, .int .u8 a1, .int .u8 a2, .int .u8 a3]] w fun e w' => ∃ v : Int, e = .returned (.agg #[.int .u64 0, .int .u64 v, .pointer (some z)]) ∧ Below w.heap.size w w' := by
  have hz0 : 0 < w.heap.size := World.block_lt_of_cell? w ⟨0, 0, none⟩ hz
  go_enter Ybad.func9, Ybad.ntmps9
  go_wp2
  exact bodyPost_ret (v := .agg #[.int .u64 0, .int .u64 _, .pointer (some z)]) (by simp [results, Ybad.results9, go_sem]; rfl) rfl ⟨_, rfl, by
    repeat (first | exact Below.refl _ _ | apply Below.alloc _ (by simp) | apply Below.setCell _ (by simp))⟩

set_option maxHeartbeats 1000000 in
theorem port_any (v : Int) (z : Addr) (pt : Int) (w : World) :
    Calls Ybad.prog 8 #[.agg #[.int .u64 0, .int .u64 v, .pointer (some z)], .int .u16 pt] w fun e w' => e = .returned (.agg #[.int .u64 0, .int .u64 v, .pointer (some z), .int .u16 pt]) ∧ Below w.heap.size w w' := by
  go_enter Ybad.func8, Ybad.ntmps8
  go_wp2
  exact bodyPost_ret (v := .agg #[.int .u64 0, .int .u64 v, .pointer (some z), .int .u16 pt]) (by simp [results, Ybad.results8, go_sem]) rfl ⟨rfl, by
    repeat (first | exact Below.refl _ _ | apply Below.alloc _ (by simp) | apply Below.setCell _ (by simp))⟩

/-- A peer with no identifier: the owner, a successor. -/
def peer (v : Int) (p : Option Addr) (pt : Int) : Array Value := #[.int .u64 0, .int .u64 0, .int .u32 0, .int .u64 0, .int .u64 v, .pointer p, .int .u16 pt]

theorem Ybad.ptr33 : Ybad.prog.underlying 33 = some (.pointer (Ybad.prog.pointee 33)) := by kernel_rfl
theorem in33_nil (d : Nat) (z : Addr) (w : World) : (Op.equalIn (d + 1) 33 (.pointer (some z)) (.pointer none)).run Ybad.prog w = .ok false w :=
  run_equalIn_pointer_nil w d 33 (some z) Ybad.ptr33
theorem in33_same (d : Nat) (z : Addr) (w : World) : (Op.equalIn (d + 1) 33 (.pointer (some z)) (.pointer (some z))).run Ybad.prog w = .ok true w := by
  have h : ∃ inf, Ybad.prog.info? (Ybad.prog.pointee 33) = some inf := Option.isSome_iff_exists.1 (by kernel_rfl)
  obtain ⟨inf, hinf⟩ := h
  simp [Op.equalIn, run_underlying Ybad.ptr33, sizeOf, typeInfo, hinf, run_sameAddr_same]
theorem in33_nils (d : Nat) (w : World) : (Op.equalIn (d + 1) 33 (.pointer none) (.pointer none)).run Ybad.prog w = .ok true w :=
  run_equalIn_pointer_nil w d 33 none Ybad.ptr33

set_option maxHeartbeats 1000000 in
theorem eql41_no (v : Int) (z : Addr) (pt : Int) (w : World) : (binOp .eql 41 (.agg (peer v (some z) pt)) (.agg (peer 0 none 0))).run Ybad.prog w = .ok (.bool false) w := by
  have hN := in33_nil 9995 z
  unfold peer
  go_simp
set_option maxHeartbeats 1000000 in
theorem eql41_yes (w : World) : (binOp .eql 41 (.agg (peer 0 none 0)) (.agg (peer 0 none 0))).run Ybad.prog w = .ok (.bool true) w := by
  have hN := in33_nils 9995
  unfold peer
  go_simp
set_option maxHeartbeats 1000000 in
theorem neq41_some (v : Int) (z : Addr) (pt : Int) (w : World) : (binOp .neq 41 (.agg (peer v (some z) pt)) (.agg (peer v (some z) pt))).run Ybad.prog w = .ok (.bool false) w := by
  have hN := in33_same 9995 z
  unfold peer
  go_simp
set_option maxHeartbeats 1000000 in
theorem neq41_none (w : World) : (binOp .neq 41 (.agg (peer 0 none 0)) (.agg (peer 0 none 0))).run Ybad.prog w = .ok (.bool false) w := by
  have hN := in33_nils 9995
  unfold peer
  go_simp
set_option maxHeartbeats 1000000 in
theorem neq39_same (v : Int) (z : Addr) (pt : Int) (w : World) : (binOp .neq 39 (.agg #[.int .u64 0, .int .u64 v, .pointer (some z), .int .u16 pt]) (.agg #[.int .u64 0, .int .u64 v, .pointer (some z), .int .u16 pt])).run Ybad.prog w = .ok (.bool false) w := by
  have hN := in33_same 9996 z
  go_simp

end Go.Proofs.YbulkdscsDoor
