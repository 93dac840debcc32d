/-
  Contracts: IsZero (13), slices.Equal of a slice with itself (11, 12), the closures (5, 6), Stop (39).
-/
import Derived.Test.YbulkdscsDoorB
import Derived.Deep.QuietTactic
import Derived.BigQuiet
import Derived.Deep.MidRow
import Derived.Laws.EntriesVeiled
namespace Go.Proofs.YbulkdscsDoor
open Go.RowKit

set_option maxHeartbeats 1000000 in
theorem iszero_no (v : Int) (z : Addr) (pt : Int) (w : World) :
    Calls Ybad.prog 13 #[.agg #[.int .u64 0, .int .u64 0, .int .u32 0, .int .u64 0, .int .u64 v, .pointer (some z), .int .u16 pt]] w fun e w' => e = .returned (.bool false) ∧ Below w.heap.size w w' := by
  have hq := eql41_no v z pt
  unfold peer at hq
  go_enter Ybad.func13, Ybad.ntmps13
  go_wp2
  go_ret
  exact ⟨rfl, (Below.refl _ _).alloc (Nat.le_refl _) _⟩

set_option maxHeartbeats 1000000 in
theorem iszero_yes (w : World) :
    Calls Ybad.prog 13 #[.agg #[.int .u64 0, .int .u64 0, .int .u32 0, .int .u64 0, .int .u64 0, .pointer none, .int .u16 0]] w fun e w' => e = .returned (.bool true) ∧ Below w.heap.size w w' := by
  have hq := eql41_yes
  unfold peer at hq
  go_enter Ybad.func13, Ybad.ntmps13
  go_wp2
  go_ret
  exact ⟨rfl, (Below.refl _ _).alloc (Nat.le_refl _) _⟩

set_option maxHeartbeats 400000 in
theorem eqp_empty (x : Option Addr) (c : Nat) (w : World) : Calls Ybad.prog 11 #[.slice x 0 c, .slice x 0 c] w fun e w' => e = .returned (.bool true) ∧ ∃ q, w' = w.drewN q := by
  go_enter Ybad.func11, Ybad.ntmps11
  go_wp2
  refine wp_loop_rounds 1 ?_
  rw [rounds_succ]
  go_wp2
  go_ret
  exact ⟨rfl, 0, rfl⟩

set_option maxHeartbeats 1000000 in
theorem eqp_same (b n c : Nat) (w : World) (hn : n ≤ 65536) (hc : ∀ j, j < n → ∃ v z pt, w.rangeAt b (j * 7) [.int .u64 0, .int .u64 0, .int .u32 0, .int .u64 0, .int .u64 v, .pointer (some z), .int .u16 pt]) :
    Calls Ybad.prog 11 #[.slice (some ⟨b, 0, none⟩) n c, .slice (some ⟨b, 0, none⟩) n c] w fun e w' => e = .returned (.bool true) ∧ ∃ q, w' = w.drewN q := by
  have HC := Hid.mk hc
  clear hc
  go_enter Ybad.func11, Ybad.ntmps11
  go_wp2
  go_loopw [13] (fun i wr => ∃ k q : Nat, k ≤ n ∧ i = .int .i64 k ∧ wr = w.drewN q) (fun i _ => n - (intOf i).toNat)
  case atStart => exact ⟨0, 0, Nat.zero_le _, rfl, rfl⟩
  case round =>
    obtain ⟨k, q, hk, rfl, rfl⟩ := hrel
    by_cases hlt : k < n
    · obtain ⟨v, z, pt, hr⟩ := HC.out k hlt
      obtain ⟨o, ho⟩ : ∃ o, k * 7 = o := ⟨_, rfl⟩
      rw [ho] at hr
      have c0 : w.cell? ⟨b, o, none⟩ = some (.int .u64 0) := hr 0 _ rfl
      have c1 : w.cell? ⟨b, o + 1, none⟩ = some (.int .u64 0) := hr 1 _ rfl
      have c2 : w.cell? ⟨b, o + 2, none⟩ = some (.int .u32 0) := hr 2 _ rfl
      have c3 : w.cell? ⟨b, o + 3, none⟩ = some (.int .u64 0) := hr 3 _ rfl
      have c4 : w.cell? ⟨b, o + 4, none⟩ = some (.int .u64 v) := hr 4 _ rfl
      have c5 : w.cell? ⟨b, o + 5, none⟩ = some (.pointer (some z)) := hr 5 _ rfl
      have c6 : w.cell? ⟨b, o + 6, none⟩ = some (.int .u16 pt) := hr 6 _ rfl
      have hq := neq41_some v z pt
      unfold peer at hq
      clear hr
      go_wp2
      go_quiet (fail)
      go_wp2
      go_roundw
      case rel => exact ⟨k + 1, _, by omega, by go_num, rfl⟩
      case measure => simp [intOf]; omega
    · go_wp2
      go_ret
      exact ⟨rfl, _, rfl⟩

set_option maxHeartbeats 400000 in
theorem eqi_empty (x : Option Addr) (c : Nat) (w : World) : Calls Ybad.prog 12 #[.slice x 0 c, .slice x 0 c] w fun e w' => e = .returned (.bool true) ∧ ∃ q, w' = w.drewN q := by
  go_enter Ybad.func12, Ybad.ntmps12
  go_wp2
  refine wp_loop_rounds 1 ?_
  rw [rounds_succ]
  go_wp2
  go_ret
  exact ⟨rfl, 0, rfl⟩

set_option maxHeartbeats 1000000 in
theorem eqi_same (b n c : Nat) (w : World) (hn : n ≤ 65536) (hc : ∀ j, j < n → w.rangeAt b (j * 3) [.int .u64 0, .int .u64 0, .int .u32 0]) :
    Calls Ybad.prog 12 #[.slice (some ⟨b, 0, none⟩) n c, .slice (some ⟨b, 0, none⟩) n c] w fun e w' => e = .returned (.bool true) ∧ ∃ q, w' = w.drewN q := by
  have HC := Hid.mk hc
  clear hc
  go_enter Ybad.func12, Ybad.ntmps12
  go_wp2
  go_loopw [13] (fun i wr => ∃ k q : Nat, k ≤ n ∧ i = .int .i64 k ∧ wr = w.drewN q) (fun i _ => n - (intOf i).toNat)
  case atStart => exact ⟨0, 0, Nat.zero_le _, rfl, rfl⟩
  case round =>
    obtain ⟨k, q, hk, rfl, rfl⟩ := hrel
    by_cases hlt : k < n
    · have hr := HC.out k hlt
      obtain ⟨o, ho⟩ : ∃ o, k * 3 = o := ⟨_, rfl⟩
      rw [ho] at hr
      have c0 : w.cell? ⟨b, o, none⟩ = some (.int .u64 0) := hr 0 _ rfl
      have c1 : w.cell? ⟨b, o + 1, none⟩ = some (.int .u64 0) := hr 1 _ rfl
      have c2 : w.cell? ⟨b, o + 2, none⟩ = some (.int .u32 0) := hr 2 _ rfl
      clear hr
      go_wp2
      go_quiet (fail)
      go_wp2
      go_roundw
      case rel => exact ⟨k + 1, _, by omega, by go_num, rfl⟩
      case measure => simp [intOf]; omega
    · go_wp2
      go_ret
      exact ⟨rfl, _, rfl⟩

/-- Of the blocks that were there all but those of S are as they were; new ones may have come. -/
structure But (S : List Nat) (w w' : World) : Prop where
  os : w'.os = w.os
  tape : w'.tape = w.tape
  output : w'.output = w.output
  size : w.heap.size ≤ w'.heap.size
  block : ∀ k, k < w.heap.size → k ∉ S → w'.heap[k]? = w.heap[k]?

theorem But.refl (S : List Nat) (w : World) : But S w w := ⟨rfl, rfl, rfl, Nat.le_refl _, fun _ _ _ => rfl⟩
theorem But.trans {S : List Nat} {a b c : World} (h : But S a b) (k : But S b c) : But S a c :=
  ⟨k.os.trans h.os, k.tape.trans h.tape, k.output.trans h.output, Nat.le_trans h.size k.size, fun i hi hn => (k.block i (Nat.lt_of_lt_of_le hi h.size) hn).trans (h.block i hi hn)⟩
theorem But.of_below {S : List Nat} {a w : World} (h : Below a.heap.size a w) : But S a w := ⟨h.os, h.tape, h.output, h.size, fun k hk _ => h.block k hk⟩
theorem But.alloc {S : List Nat} {a w : World} (h : But S a w) (o : Obj) : But S a (w.alloc o) := h.trans (.of_below ((Below.refl _ _).alloc (Nat.le_refl _) _))
theorem But.setCell {S : List Nat} {a w : World} (h : But S a w) {p : Addr} (hp : p.block ∈ S) (u : Value) : But S a (w.setCell p u) :=
  h.trans ⟨rfl, rfl, rfl, by simp, fun k _ hn => Below.heap_setCell _ _ _ _ (fun e => hn (e ▸ hp))⟩
theorem But.mono {S T : List Nat} {a w : World} (h : But S a w) (hs : ∀ x ∈ S, x ∈ T) : But T a w := ⟨h.os, h.tape, h.output, h.size, fun k hk hn => h.block k hk (fun hx => hn (hs k hx))⟩
theorem But.cell {S : List Nat} {w w' : World} (h : But S w w') {b o : Nat} (hb : b < w.heap.size) (hn : b ∉ S) : w'.cell? ⟨b, o, none⟩ = w.cell? ⟨b, o, none⟩ := World.cell?_of_block (h.block b hb hn)
theorem But.frozen {S : List Nat} {w w' : World} (h : But S w w') {b o : Nat} (hb : b < w.heap.size) (hn : b ∉ S) : w'.frozen? ⟨b, o, none⟩ = w.frozen? ⟨b, o, none⟩ := World.frozen?_of_block (h.block b hb hn)

/-- The six captured variables lie in blocks g, g + 1 .. g + 5, none frozen; 'calls' holds n. -/
structure Vars (g : Nat) (w : World) (n who : Int) (O : Array Value) (s p e : Value) : Prop where
  b0 : w.heap[g]? = some (.cells #[.int .i64 n] 3 (0, 0))
  b1 : w.heap[g + 1]? = some (.cells #[.int .i64 who] 3 (0, 0))
  b2 : w.heap[g + 2]? = some (.cells O 41 (0, 0))
  b3 : w.heap[g + 3]? = some (.cells #[s] 42 (0, 0))
  b4 : w.heap[g + 4]? = some (.cells #[p] 43 (0, 0))
  b5 : w.heap[g + 5]? = some (.cells #[e] 45 (0, 0))

def six (g : Nat) : List Nat := [g, g + 1, g + 2, g + 3, g + 4, g + 5]

theorem cell_blk {w : World} {b : Nat} {c : Array Value} {t : TypeId} (h : w.heap[b]? = some (.cells c t (0, 0))) (o : Nat) : w.cell? ⟨b, o, none⟩ = c[o]? := by simp [World.cell?, h]
theorem free_blk {w : World} {b : Nat} {c : Array Value} {t : TypeId} (h : w.heap[b]? = some (.cells c t (0, 0))) (o : Nat) : w.frozen? ⟨b, o, none⟩ = false := by simp [World.frozen?, h]

theorem hs_same {w : World} {b : Nat} {c : Array Value} {t : TypeId} (h : w.heap[b]? = some (.cells c t (0, 0))) (i : Nat) (v : Value) : (w.setCell ⟨b, i, none⟩ v).heap[b]? = some (.cells (c.setIfInBounds i v) t (0, 0)) := by
  simp only [World.setCell, Array.getElem?_modify, h]; simp
theorem hs_other {w : World} {b d : Nat} {o : Obj} (h : w.heap[b]? = some o) (hd : b ≠ d) (i : Nat) (v : Value) : (w.setCell ⟨d, i, none⟩ v).heap[b]? = some o := by
  rw [Below.heap_setCell _ _ _ _ hd]; exact h
theorem hs_alloc {w : World} {b : Nat} {o : Obj} (h : w.heap[b]? = some o) (o2 : Obj) : (w.alloc o2).heap[b]? = some o := by
  rw [Below.heap_alloc _ _ _ (Array.getElem?_eq_some_iff.1 h).1]; exact h

set_option maxHeartbeats 1000000 in
theorem vars_done {g : Nat} {w : World} {o0 o1 o2 o3 o4 o5 o6 s0 p0 e0 : Value} (h : Vars g w 0 0 #[o0, o1, o2, o3, o4, o5, o6] s0 p0 e0) (k : Int) (x0 x1 x2 x3 x4 x5 x6 s p e : Value) (ob : Obj) :
    But (six g) w (((((((((((((w.setCell ⟨g, 0, none⟩ (.int .i64 1)).setCell ⟨g + 1, 0, none⟩ (.int .i64 k)).setCell ⟨g + 2, 0, none⟩ x0).setCell ⟨g + 2, 1, none⟩ x1).setCell ⟨g + 2, 2, none⟩ x2).setCell ⟨g + 2, 3, none⟩ x3).setCell ⟨g + 2, 4, none⟩ x4).setCell ⟨g + 2, 5, none⟩ x5).setCell ⟨g + 2, 6, none⟩ x6).setCell ⟨g + 3, 0, none⟩ s).setCell ⟨g + 4, 0, none⟩ p).setCell ⟨g + 5, 0, none⟩ e).alloc ob) ∧
    Vars g (((((((((((((w.setCell ⟨g, 0, none⟩ (.int .i64 1)).setCell ⟨g + 1, 0, none⟩ (.int .i64 k)).setCell ⟨g + 2, 0, none⟩ x0).setCell ⟨g + 2, 1, none⟩ x1).setCell ⟨g + 2, 2, none⟩ x2).setCell ⟨g + 2, 3, none⟩ x3).setCell ⟨g + 2, 4, none⟩ x4).setCell ⟨g + 2, 5, none⟩ x5).setCell ⟨g + 2, 6, none⟩ x6).setCell ⟨g + 3, 0, none⟩ s).setCell ⟨g + 4, 0, none⟩ p).setCell ⟨g + 5, 0, none⟩ e).alloc ob) 1 k #[x0, x1, x2, x3, x4, x5, x6] s p e := by
  refine ⟨?_, ?_, ?_, ?_, ?_, ?_, ?_⟩
  · refine But.alloc ?_ _
    repeat (refine But.setCell ?_ (by simp [six]) _)
    exact But.refl _ _
  · refine hs_alloc ?_ _
    refine hs_other (hs_other (hs_other (hs_other (hs_other (hs_other (hs_other (hs_other (hs_other (hs_other (hs_other (hs_same h.b0 _ _) ?_ _ _) ?_ _ _) ?_ _ _) ?_ _ _) ?_ _ _) ?_ _ _) ?_ _ _) ?_ _ _) ?_ _ _) ?_ _ _) ?_ _ _ <;> omega
  · refine hs_alloc ?_ _
    refine hs_other (hs_other (hs_other (hs_other (hs_other (hs_other (hs_other (hs_other (hs_other (hs_other (hs_same (hs_other h.b1 ?_ _ _) _ _) ?_ _ _) ?_ _ _) ?_ _ _) ?_ _ _) ?_ _ _) ?_ _ _) ?_ _ _) ?_ _ _) ?_ _ _) ?_ _ _ <;> omega
  · refine hs_alloc ?_ _
    have e1 := hs_other (hs_other h.b2 (show g + 2 ≠ g by omega) 0 (.int .i64 1)) (show g + 2 ≠ g + 1 by omega) 0 (.int .i64 k)
    have e2 := hs_same (hs_same (hs_same (hs_same (hs_same (hs_same (hs_same e1 0 x0) 1 x1) 2 x2) 3 x3) 4 x4) 5 x5) 6 x6
    simp only [List.setIfInBounds_toArray, List.set_cons_zero, List.set_cons_succ] at e2
    exact hs_other (hs_other (hs_other e2 (show g + 2 ≠ g + 3 by omega) _ _) (show g + 2 ≠ g + 4 by omega) _ _) (show g + 2 ≠ g + 5 by omega) _ _
  · refine hs_alloc ?_ _
    refine hs_other (hs_other (hs_same (hs_other (hs_other (hs_other (hs_other (hs_other (hs_other (hs_other (hs_other (hs_other h.b3 ?_ _ _) ?_ _ _) ?_ _ _) ?_ _ _) ?_ _ _) ?_ _ _) ?_ _ _) ?_ _ _) ?_ _ _) _ _) ?_ _ _) ?_ _ _ <;> omega
  · refine hs_alloc ?_ _
    refine hs_other (hs_same (hs_other (hs_other (hs_other (hs_other (hs_other (hs_other (hs_other (hs_other (hs_other (hs_other h.b4 ?_ _ _) ?_ _ _) ?_ _ _) ?_ _ _) ?_ _ _) ?_ _ _) ?_ _ _) ?_ _ _) ?_ _ _) ?_ _ _) _ _) ?_ _ _ <;> omega
  · refine hs_alloc ?_ _
    refine hs_same (hs_other (hs_other (hs_other (hs_other (hs_other (hs_other (hs_other (hs_other (hs_other (hs_other (hs_other h.b5 ?_ _ _) ?_ _ _) ?_ _ _) ?_ _ _) ?_ _ _) ?_ _ _) ?_ _ _) ?_ _ _) ?_ _ _) ?_ _ _) ?_ _ _) _ _ <;> omega

set_option maxHeartbeats 1000000 in
theorem done1 (g : Nat) (v : Int) (z : Option Addr) (pt : Int) (sa : Option Addr) (sl sc : Nat) (pa : Option Addr) (pl pc : Nat) (e : Value) (he : e = .nilIface ∨ ∃ x, e = .iface 122 (.pointer (some x))) (o0 o1 o2 o3 o4 o5 o6 s0 p0 e0 : Value) (w : World)
    (h : Vars g w 0 0 #[o0, o1, o2, o3, o4, o5, o6] s0 p0 e0) :
    Calls Ybad.prog 5 #[.agg #[.int .u64 0, .int .u64 0, .int .u32 0, .int .u64 0, .int .u64 v, .pointer z, .int .u16 pt], .slice sa sl sc, .slice pa pl pc, e, .pointer (some ⟨g, 0, none⟩), .pointer (some ⟨g + 1, 0, none⟩), .pointer (some ⟨g + 2, 0, none⟩), .pointer (some ⟨g + 3, 0, none⟩), .pointer (some ⟨g + 4, 0, none⟩), .pointer (some ⟨g + 5, 0, none⟩)] w
      fun r w' => r = .returned (.tuple #[]) ∧ But (six g) w w' ∧ Vars g w' 1 1 #[.int .u64 0, .int .u64 0, .int .u32 0, .int .u64 0, .int .u64 v, .pointer z, .int .u16 pt] (.slice sa sl sc) (.slice pa pl pc) e := by
  have c0 := cell_blk h.b0
  have c1 := cell_blk h.b1
  have c2 := cell_blk h.b2
  have c3 := cell_blk h.b3
  have c4 := cell_blk h.b4
  have c5 := cell_blk h.b5
  have f0 := free_blk h.b0
  have f1 := free_blk h.b1
  have f2 := free_blk h.b2
  have f3 := free_blk h.b3
  have f4 := free_blk h.b4
  have f5 := free_blk h.b5
  have z5 := (Array.getElem?_eq_some_iff.1 h.b5).1
  have z0 : g < w.heap.size := by omega
  have z1 : g + 1 < w.heap.size := by omega
  have z2 : g + 2 < w.heap.size := by omega
  have z3 : g + 3 < w.heap.size := by omega
  have z4 : g + 4 < w.heap.size := by omega
  have H := Hid.mk h
  clear h
  rcases he with rfl | ⟨x, rfl⟩
  · go_enter Ybad.func5, Ybad.ntmps5
    go_wp2
    go_end0
    exact ⟨rfl, vars_done H.out 1 _ _ _ _ _ _ _ _ _ _ _⟩
  · go_enter Ybad.func5, Ybad.ntmps5
    go_wp2
    go_end0
    exact ⟨rfl, vars_done H.out 1 _ _ _ _ _ _ _ _ _ _ _⟩

set_option maxHeartbeats 1000000 in
theorem done2 (g : Nat) (v : Int) (z : Option Addr) (pt : Int) (sa : Option Addr) (sl sc : Nat) (pa : Option Addr) (pl pc : Nat) (e : Value) (he : e = .nilIface ∨ ∃ x, e = .iface 122 (.pointer (some x))) (o0 o1 o2 o3 o4 o5 o6 s0 p0 e0 : Value) (w : World)
    (h : Vars g w 0 0 #[o0, o1, o2, o3, o4, o5, o6] s0 p0 e0) :
    Calls Ybad.prog 6 #[.agg #[.int .u64 0, .int .u64 0, .int .u32 0, .int .u64 0, .int .u64 v, .pointer z, .int .u16 pt], .slice sa sl sc, .slice pa pl pc, e, .pointer (some ⟨g, 0, none⟩), .pointer (some ⟨g + 1, 0, none⟩), .pointer (some ⟨g + 2, 0, none⟩), .pointer (some ⟨g + 3, 0, none⟩), .pointer (some ⟨g + 4, 0, none⟩), .pointer (some ⟨g + 5, 0, none⟩)] w
      fun r w' => r = .returned (.tuple #[]) ∧ But (six g) w w' ∧ Vars g w' 1 2 #[.int .u64 0, .int .u64 0, .int .u32 0, .int .u64 0, .int .u64 v, .pointer z, .int .u16 pt] (.slice sa sl sc) (.slice pa pl pc) e := by
  have c0 := cell_blk h.b0
  have c1 := cell_blk h.b1
  have c2 := cell_blk h.b2
  have c3 := cell_blk h.b3
  have c4 := cell_blk h.b4
  have c5 := cell_blk h.b5
  have f0 := free_blk h.b0
  have f1 := free_blk h.b1
  have f2 := free_blk h.b2
  have f3 := free_blk h.b3
  have f4 := free_blk h.b4
  have f5 := free_blk h.b5
  have z5 := (Array.getElem?_eq_some_iff.1 h.b5).1
  have z0 : g < w.heap.size := by omega
  have z1 : g + 1 < w.heap.size := by omega
  have z2 : g + 2 < w.heap.size := by omega
  have z3 : g + 3 < w.heap.size := by omega
  have z4 : g + 4 < w.heap.size := by omega
  have H := Hid.mk h
  clear h
  rcases he with rfl | ⟨x, rfl⟩
  · go_enter Ybad.func6, Ybad.ntmps6
    go_wp2
    go_end0
    exact ⟨rfl, vars_done H.out 2 _ _ _ _ _ _ _ _ _ _ _⟩
  · go_enter Ybad.func6, Ybad.ntmps6
    go_wp2
    go_end0
    exact ⟨rfl, vars_done H.out 2 _ _ _ _ _ _ _ _ _ _ _⟩

end Go.Proofs.YbulkdscsDoor
