/-
  Contract: routed (10).
-/
import Derived.Test.YbulkdscsDoorE
namespace Go.Proofs.YbulkdscsDoor
open Go.RowKit

theorem Below.drewN' {B : Nat} {a w : World} (h : Below B a w) (n : Nat) : Below B a (w.drewN n) := ⟨h.os, h.tape, h.output, h.size, h.block⟩

theorem look_drewN {w : World} {b : Nat} {m : List (Int × Value)} (h : MapIs w b m) (k : Int) (x : Value) (hx : ((findP k m 0).map (·.2)).getD (.pointer none) = x) :
    ∀ q, (Instr.lookup 54 (.map (some b)) (.int .u32 k) false).run Ybad.prog (w.drewN q) = .ok x (w.drewN q) := by
  intro q
  subst hx
  refine run_look ?_ k
  obtain ⟨es, c, h1, h2⟩ := h
  exact ⟨es, c, by simpa using h1, h2⟩

theorem below_box2 (w : World) (o1 o2 : Obj) : Below w.heap.size w ((w.alloc o1).alloc o2) := ((Below.refl _ _).alloc (Nat.le_refl _) _).alloc (by simp) _

theorem routed_none (N M : Nat) (m : List (Int × Value)) (ref : Int) (va : Int) (za : Option Addr) (pa : Int) (v : Int) (z : Option Addr) (pt : Int) (ps ss tx : Value) (w : World)
    (hN : w.cell? ⟨N, 213, none⟩ = some (.map (some M))) (hM : MapIs w M m) (hf : findP ref m 0 = none) :
    Calls Ybad.prog 10 #[.pointer (some ⟨N, 0, none⟩), .agg #[.int .u64 0, .int .u64 va, .pointer za, .int .u16 pa],
      .agg #[.int .u32 ref, .int .u64 0, .int .u64 0, .int .u32 0, .int .u64 0, .int .u64 v, .pointer z, .int .u16 pt, ps, ss, tx]] w
      fun r w' => r = .returned (.tuple #[]) ∧ Below w.heap.size w w' := by
  have zN := World.block_lt_of_cell? w _ hN
  have HM := Hid.mk hM
  clear hM
  go_enter Ybad.func10, Ybad.ntmps10
  go_wp2
  generalize hwb : (w.alloc (.cells #[.int .u64 0, .int .u64 va, .pointer za, .int .u16 pa] 39)).alloc (.cells #[.int .u32 ref, .int .u64 0, .int .u64 0, .int .u32 0, .int .u64 0, .int .u64 v, .pointer z, .int .u16 pt, ps, ss, tx] 117) = wb
  have hB : Below w.heap.size w wb := hwb ▸ below_box2 w _ _
  have n1 : wb.cell? ⟨N, 213, none⟩ = some (.map (some M)) := (hB.cell zN).trans hN
  have r0 : wb.cell? ⟨w.heap.size + 1, 0, none⟩ = some (.int .u32 ref) := by rw [← hwb]; simp
  have hl := look_drewN (HM.out.below hB) ref (.pointer none) (by rw [hf]; rfl)
  have HB := Hid.mk hB
  clear hwb hB hN
  go_quiet (fail)
  go_wp2
  refine bodyPost_ret (results_none rfl _ _ _) rfl ?_
  exact ⟨rfl, Below.drewN' HB.out _⟩

/-- What routed hands to settle as the error. -/
def ErrIs (w : World) (va : Int) (za : Option Addr) (pa : Int) (z : Option Addr) (tx e : Value) (w1 : World) : Prop :=
  (e = .nilIface ∧ z ≠ none) ∨ (z = none ∧ ∃ x, e = .iface 122 (.pointer (some ⟨x, 0, none⟩)) ∧ w.heap.size ≤ x ∧ w1.heap[x]? = some (.cells #[.int .u64 0, .int .u64 va, .pointer za, .int .u16 pa, tx] 125 (0, 0)))

theorem routed_some (N M T : Nat) (m : List (Int × Value)) (i : Nat) (ref : Int) (va : Int) (za : Option Addr) (pa : Int) (v : Int) (z : Option Addr) (pt : Int) (hz : z = none → v = 0 ∧ pt = 0) (ps ss : Value) (ta : ByteArray) (w : World)
    (hN : w.cell? ⟨N, 213, none⟩ = some (.map (some M))) (hM : MapIs w M m) (hf : findP ref m 0 = some (i, .pointer (some ⟨T, 0, none⟩)))
    (R : Value → World → World → Prop)
    (hset : ∀ e w1, Below w.heap.size w w1 → ErrIs w va za pa z (.string ta) e w1 → Calls Ybad.prog 14 #[.pointer (some ⟨N, 0, none⟩), .pointer (some ⟨T, 0, none⟩), .agg #[.int .u64 0, .int .u64 0, .int .u32 0, .int .u64 0, .int .u64 v, .pointer z, .int .u16 pt], ss, ps, e] w1 fun r w' => r = .returned (.tuple #[]) ∧ R e w1 w') :
    Calls Ybad.prog 10 #[.pointer (some ⟨N, 0, none⟩), .agg #[.int .u64 0, .int .u64 va, .pointer za, .int .u16 pa],
      .agg #[.int .u32 ref, .int .u64 0, .int .u64 0, .int .u32 0, .int .u64 0, .int .u64 v, .pointer z, .int .u16 pt, ps, ss, .string ta]] w
      fun r w' => r = .returned (.tuple #[]) ∧ ∃ e w1, Below w.heap.size w w1 ∧ ErrIs w va za pa z (.string ta) e w1 ∧ R e w1 w' := by
  have zN := World.block_lt_of_cell? w _ hN
  have HM := Hid.mk hM
  have HS := Hid.mk hset
  clear hM hset
  go_enter Ybad.func10, Ybad.ntmps10
  go_wp2
  generalize hwb : (w.alloc (.cells #[.int .u64 0, .int .u64 va, .pointer za, .int .u16 pa] 39)).alloc (.cells #[.int .u32 ref, .int .u64 0, .int .u64 0, .int .u32 0, .int .u64 0, .int .u64 v, .pointer z, .int .u16 pt, ps, ss, .string ta] 117) = wb
  have hB : Below w.heap.size w wb := hwb ▸ below_box2 w _ _
  have n1 : wb.cell? ⟨N, 213, none⟩ = some (.map (some M)) := (hB.cell zN).trans hN
  have r0 : wb.cell? ⟨w.heap.size + 1, 0, none⟩ = some (.int .u32 ref) := by rw [← hwb]; simp
  have hl := look_drewN (HM.out.below hB) ref (.pointer (some ⟨T, 0, none⟩)) (by rw [hf]; rfl)
  have HB := Hid.mk hB
  have HWB := Hid.mk hwb
  have q1 : wb.heap[w.heap.size + 1]? = some (.cells #[.int .u32 ref, .int .u64 0, .int .u64 0, .int .u32 0, .int .u64 0, .int .u64 v, .pointer z, .int .u16 pt, ps, ss, .string ta] 117 (0, 0)) := by
    rw [← hwb]; have := heap_new (w.alloc (.cells #[.int .u64 0, .int .u64 va, .pointer za, .int .u16 pa] 39)) (.cells #[.int .u32 ref, .int .u64 0, .int .u64 0, .int .u32 0, .int .u64 0, .int .u64 v, .pointer z, .int .u16 pt, ps, ss, .string ta] 117)
    simpa using this
  have q0 : wb.heap[w.heap.size]? = some (.cells #[.int .u64 0, .int .u64 va, .pointer za, .int .u16 pa] 39 (0, 0)) := by
    rw [← hwb]; exact hs_alloc (heap_new w _) _
  clear hwb hB hN
  go_cut [6] (fun l wx => l = .pointer (some ⟨T, 0, none⟩) ∧ ∃ q, wx = wb.drewN q)
  case first =>
    go_quiet (fail)
    go_wp2
    go_meet
    case rel => exact ⟨rfl, _, rfl⟩
  case rest =>
    obtain ⟨rfl, q, hq⟩ := hcut
    have q1' : wc.heap[w.heap.size + 1]? = some (.cells #[.int .u32 ref, .int .u64 0, .int .u64 0, .int .u32 0, .int .u64 0, .int .u64 v, .pointer z, .int .u16 pt, ps, ss, .string ta] 117 (0, 0)) := by rw [hq]; exact q1
    have q0' : wc.heap[w.heap.size]? = some (.cells #[.int .u64 0, .int .u64 va, .pointer za, .int .u16 pa] 39 (0, 0)) := by rw [hq]; exact q0
    have hBc : Below w.heap.size w wc := by rw [hq]; exact Below.drewN' HB.out q
    have HBc := Hid.mk hBc
    have HQ1 := Hid.mk q1'
    have HQ0 := Hid.mk q0'
    have c1 := cell_blk q1'
    have z1 := (Array.getElem?_eq_some_iff.1 q1').1
    have z0 : w.heap.size < wc.heap.size := by omega
    clear q1 q0 n1 r0 hl hq q1' q0' hBc
    cases z with
    | none =>
      obtain ⟨rfl, rfl⟩ := hz rfl
      go_wp2_with (go_at_call 13; refine (iszero_yes wc).mono ?_; rintro e w1 ⟨rfl, hb1⟩; have d1 := cell_blk ((hb1.block _ z1).trans HQ1.out); have d0 := cell_blk ((hb1.block _ z0).trans HQ0.out); have zw : w.heap.size + 1 < w1.heap.size := Nat.lt_of_lt_of_le z1 hb1.size; have HB1 := Hid.mk hb1; clear hb1 c1)
      have hB2 : Below w.heap.size w (w1.alloc (.cells #[.int .u64 0, .int .u64 va, .pointer za, .int .u16 pa, .string ta] 125)) := (HBc.out.trans (HB1.out.mono HBc.out.size)).alloc (by omega) _
      have hE : ErrIs w va za pa none (.string ta) (.iface 122 (.pointer (some ⟨w1.heap.size, 0, none⟩))) (w1.alloc (.cells #[.int .u64 0, .int .u64 va, .pointer za, .int .u16 pa, .string ta] 125)) := .inr ⟨rfl, _, rfl, by omega, heap_new _ _⟩
      refine (HS.out _ _ hB2 hE).mono ?_
      rintro e w2 ⟨rfl, hr⟩
      have HR := Hid.mk (p := ∃ e w1, Below w.heap.size w w1 ∧ ErrIs w va za pa none (.string ta) e w1 ∧ R e w1 w2) ⟨_, _, hB2, hE, hr⟩
      clear hB2 hE hr
      go_wp2
      go_end0
      exact ⟨rfl, HR.out⟩
    | some z' =>
      go_wp2_with (go_at_call 13; refine (iszero_no v z' pt wc).mono ?_; rintro e w1 ⟨rfl, hb1⟩; have d1 := cell_blk ((hb1.block _ z1).trans HQ1.out); have d0 := cell_blk ((hb1.block _ z0).trans HQ0.out); have zw : w.heap.size + 1 < w1.heap.size := Nat.lt_of_lt_of_le z1 hb1.size; have HB1 := Hid.mk hb1; clear hb1 c1)
      have hB2 : Below w.heap.size w w1 := HBc.out.trans (HB1.out.mono HBc.out.size)
      have hE : ErrIs w va za pa (some z') (.string ta) .nilIface w1 := .inl ⟨rfl, by simp⟩
      refine (HS.out _ _ hB2 hE).mono ?_
      rintro e w2 ⟨rfl, hr⟩
      have HR := Hid.mk (p := ∃ e w1, Below w.heap.size w w1 ∧ ErrIs w va za pa (some z') (.string ta) e w1 ∧ R e w1 w2) ⟨_, _, hB2, hE, hr⟩
      clear hB2 hE hr
      go_wp2
      go_end0
      exact ⟨rfl, HR.out⟩
end Go.Proofs.YbulkdscsDoor
