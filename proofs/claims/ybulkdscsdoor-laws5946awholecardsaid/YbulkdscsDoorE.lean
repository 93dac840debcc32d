/-
  Contract: settle (14).
-/
import Derived.Test.YbulkdscsDoorD
import Derived.Deep.RegionHeld3
import Derived.Deep.DeepCutAuto
namespace Go.Proofs.YbulkdscsDoor
open Go.RowKit

/-- What settle reads: the node N (its env E, its map M), the lookup T. -/
structure Setting (N E M T : Nat) (f : Nat) (g : Nat) (ov : Bool) (ra : Option Addr) (rl rc : Nat) (wait : Int) (w : World) : Prop where
  nenv : w.cell? ⟨N, 23, none⟩ = some (.iface 57 (.pointer (some ⟨E, 0, none⟩)))
  nmap : w.cell? ⟨N, 213, none⟩ = some (.map (some M))
  tdone : w.cell? ⟨T, 24, none⟩ = some (.func (.func f) #[] #[.pointer (some ⟨g, 0, none⟩), .pointer (some ⟨g + 1, 0, none⟩), .pointer (some ⟨g + 2, 0, none⟩), .pointer (some ⟨g + 3, 0, none⟩), .pointer (some ⟨g + 4, 0, none⟩), .pointer (some ⟨g + 5, 0, none⟩)])
  tover : w.cell? ⟨T, 25, none⟩ = some (.bool ov)
  trefs : w.cell? ⟨T, 26, none⟩ = some (.slice ra rl rc)
  twait : w.cell? ⟨T, 28, none⟩ = some (.int .u64 wait)
  tfree : w.frozen? ⟨T, 25, none⟩ = false
  tblk : ∃ C, w.heap[T]? = some (.cells C 53 (0, 0))

set_option maxHeartbeats 1000000 in
theorem settle_over (N E M T f g : Nat) (ra : Option Addr) (rl rc : Nat) (wait : Int) (v : Int) (z : Option Addr) (pt : Int) (s p e : Value) (w : World) (h : Setting N E M T f g true ra rl rc wait w) :
    Calls Ybad.prog 14 #[.pointer (some ⟨N, 0, none⟩), .pointer (some ⟨T, 0, none⟩), .agg #[.int .u64 0, .int .u64 0, .int .u32 0, .int .u64 0, .int .u64 v, .pointer z, .int .u16 pt], s, p, e] w fun r w' => r = .returned (.tuple #[]) ∧ Below w.heap.size w w' := by
  have c1 := h.tover
  have z1 := World.block_lt_of_cell? w _ c1
  clear h
  go_enter Ybad.func14, Ybad.ntmps14
  go_wp2
  refine bodyPost_ret (results_none rfl _ _ _) rfl ?_
  exact ⟨rfl, (Below.refl _ _).alloc (Nat.le_refl _) _⟩

variable {ops : Array Oper} {rest : List Oper} {o : Oper} {a : Act} {w : World} {Q : Exit → Act → World → Prop} in
theorem wpList_del (hg : o.guard = none) (m x : Operand) (hop : o.op = Op.call { callee := Callee.builtin Builtin.delete, args := #[m, x], argTypes := #[54, 22] })
    (b : Nat) (hm : a.eval m = .map (some b)) (k : Int) (hx : a.eval x = .int .u32 k) (l : List (Int × Value)) (hl : MapIs w b l)
    (hK : ∀ w', But [b] w w' → MapIs w' b (delP k l) → wpList Ybad.prog ops Q rest (a.put o.dst (.tuple #[])) w') :
    wpList Ybad.prog ops Q (o :: rest) a w := by
  refine wpList_plain hg fun K' hK' => ?_
  obtain ⟨ob, hrun, r1⟩ := run_del hl k o.type
  unfold Oper.wp
  simp [execOp, hop, resolve, invoke, builtin, hm, hx, hrun, Result.andThen]
  refine hK' _ _ (hK _ ⟨rfl, rfl, rfl, by simp [ChangeMaps.setBlock], fun i _ hn => ?_⟩ r1)
  have : b ≠ i := fun e => hn (by simp [e])
  simp [ChangeMaps.setBlock, this]

theorem add_block (x : Addr) (i : Nat) : (x.add i).block = x.block := by unfold Addr.add; split <;> rfl

theorem heap_new (w : World) (o : Obj) : (w.alloc o).heap[w.heap.size]? = some o := by unfold World.alloc; simp

theorem method_stop (a : Addr) (w : World) : (method 289 57 (.pointer (some a)) "Stop").run Ybad.prog w = .ok (39, .pointer (some a)) w := by kernel_rfl

/-- What the test on 'wait' and Stop leave. -/
def Stopped (E : Nat) (wait : Int) (wa wx : World) : Prop :=
  But [E] wa wx ∧ ((wait = 0 ∧ wx.heap[E]? = some (.cells #[.slice none 0 0, .int .i64 0] 60 (0, 0))) ∨
    (wait ≠ 0 ∧ ∃ g c, wx.heap[E]? = some (.cells #[.slice (some ⟨g, 0, none⟩) 1 c, .int .i64 0] 60 (0, 0)) ∧ wx.cell? ⟨g, 0, none⟩ = some (.int .u64 wait) ∧ wa.heap.size ≤ g))

/-- The blocks that settle touches lie apart. -/
structure Apart (N E M T g : Nat) : Prop where
  ne : N ≠ E
  nm : N ≠ M
  nt : N ≠ T
  em : E ≠ M
  et : E ≠ T
  mt : M ≠ T
  s : ∀ x ∈ six g, x ≠ N ∧ x ≠ E ∧ x ≠ M ∧ x ≠ T

/-- What settle leaves. -/
structure Settled (E M T g : Nat) (m : List (Int × Value)) (rs : List Int) (wait who : Int) (O : Array Value) (s p e : Value) (w w' : World) : Prop where
  but : But (T :: E :: M :: six g) w w'
  vars : Vars g w' 1 who O s p e
  map : MapIs w' M (rs.foldl (fun m x => delP x m) m)
  over : w'.cell? ⟨T, 25, none⟩ = some (.bool true)
  tblk : ∃ C, w'.heap[T]? = some (.cells C 53 (0, 0))
  stops : (wait = 0 ∧ w'.heap[E]? = some (.cells #[.slice none 0 0, .int .i64 0] 60 (0, 0))) ∨
    (wait ≠ 0 ∧ ∃ g c, w'.heap[E]? = some (.cells #[.slice (some ⟨g, 0, none⟩) 1 c, .int .i64 0] 60 (0, 0)) ∧ w'.cell? ⟨g, 0, none⟩ = some (.int .u64 wait) ∧ w.heap.size ≤ g)


theorem settled_of {N E M T g : Nat} {m : List (Int × Value)} {rs : List Int} {wait who : Int} {O : Array Value} {s p e : Value} {w wa wc wr w' : World} (hA : Apart N E M T g) (hB0 : w.heap.size ≤ wa.heap.size) (hB : But [T, E] w wc) (hBr : But [M] wc wr) (hk : But (six g) wr.drew w')
    (zE : E < w.heap.size) (zM : M < w.heap.size) (zT : T < w.heap.size) (zg : g + 5 < w.heap.size)
    (hV : Vars g w' 1 who O s p e) (hM : MapIs wr M (rs.foldl (fun m x => delP x m) m)) (hT : wc.cell? ⟨T, 25, none⟩ = some (.bool true)) (hTb : ∃ C, wc.heap[T]? = some (.cells C 53 (0, 0)))
    (hEnd : (wait = 0 ∧ wc.heap[E]? = some (.cells #[.slice none 0 0, .int .i64 0] 60 (0, 0))) ∨
      (wait ≠ 0 ∧ ∃ g c, wc.heap[E]? = some (.cells #[.slice (some ⟨g, 0, none⟩) 1 c, .int .i64 0] 60 (0, 0)) ∧ wc.cell? ⟨g, 0, none⟩ = some (.int .u64 wait) ∧ wa.heap.size ≤ g)) :
    Settled E M T g m rs wait who O s p e w w' := by
  have hk' : But (six g) wr w' := ⟨hk.os, hk.tape, hk.output, hk.size, hk.block⟩
  have hs1 := hB.size
  have hs2 := hBr.size
  have nS : ∀ x ∈ six g, x < w.heap.size := fun x hx => by simp [six] at hx; omega
  have nT : T ∉ six g := fun hx => (hA.s T hx).2.2.2 rfl
  have nM : M ∉ six g := fun hx => (hA.s M hx).2.2.1 rfl
  have nE : E ∉ six g := fun hx => (hA.s E hx).2.1 rfl
  have eE : w'.heap[E]? = wc.heap[E]? := (hk'.block E (by omega) nE).trans (hBr.block E (by omega) (by simpa using hA.em))
  refine ⟨?_, hV, ?_, ?_, ?_, ?_⟩
  · exact (hB.mono (by simp)).trans ((hBr.mono (by simp)).trans (hk'.mono (by simp +contextual)))
  · obtain ⟨es, c, h1, h2⟩ := hM
    exact ⟨es, c, by rw [hk'.block M (by omega) nM]; exact h1, h2⟩
  · rw [hk'.cell (by omega) nT, hBr.cell (by omega) (by simpa using hA.mt.symm)]; exact hT
  · obtain ⟨C, hC⟩ := hTb
    exact ⟨C, by rw [hk'.block T (by omega) nT, hBr.block T (by omega) (by simpa using hA.mt.symm)]; exact hC⟩
  · rcases hEnd with ⟨h1, h2⟩ | ⟨h1, g', c, h2, h3, h4⟩
    · exact .inl ⟨h1, eE.trans h2⟩
    · have hg := World.block_lt_of_cell? wc _ h3
      simp only at hg
      refine .inr ⟨h1, g', c, eE.trans h2, ?_, Nat.le_trans hB0 h4⟩
      rw [hk'.cell (by omega) (fun hx => by have := nS _ hx; omega), hBr.cell hg (by simp; omega)]; exact h3

set_option maxRecDepth 100000 in
set_option maxHeartbeats 2000000 in
theorem settle_l (N E M T g : Nat) (ra : Option Addr) (rl rc : Nat) (rs : List Int) (wait : Int) (v : Int) (z : Option Addr) (pt : Int) (sa : Option Addr) (sl sc : Nat) (pa : Option Addr) (pl pc : Nat) (e : Value) (he : e = .nilIface ∨ ∃ x, e = .iface 122 (.pointer (some x))) (o0 o1 o2 o3 o4 o5 o6 s0 p0 e0 : Value) (m : List (Int × Value)) (w : World) (h : Setting N E M T 5 g false ra rl rc wait w)
    (hE : w.heap[E]? = some (.cells #[.slice none 0 0, .int .i64 0] 60 (0, 0))) (hA : Apart N E M T g) (hM : MapIs w M m) (hV : Vars g w 0 0 #[o0, o1, o2, o3, o4, o5, o6] s0 p0 e0)
    (hR : RowIs .u32 w (.slice ra rl rc) rs) (hRl : rs.length ≤ 9223372036854775806) (hRb : ∀ x, ra = some x → x.block ≠ T ∧ x.block ≠ E ∧ x.block ≠ M) :
    Calls Ybad.prog 14 #[.pointer (some ⟨N, 0, none⟩), .pointer (some ⟨T, 0, none⟩), .agg #[.int .u64 0, .int .u64 0, .int .u32 0, .int .u64 0, .int .u64 v, .pointer z, .int .u16 pt], .slice sa sl sc, .slice pa pl pc, e] w
      fun r w' => r = .returned (.tuple #[]) ∧ Settled E M T g m rs wait 1 #[.int .u64 0, .int .u64 0, .int .u32 0, .int .u64 0, .int .u64 v, .pointer z, .int .u16 pt] (.slice sa sl sc) (.slice pa pl pc) e w w' := by
  have c1 := h.tover
  have c2 := h.twait
  have f1 := h.tfree
  have z1 := World.block_lt_of_cell? w _ c1
  have z2 := World.block_lt_of_cell? w _ h.nenv
  have H := Hid.mk h
  have HA := Hid.mk hA
  have HM := Hid.mk hM
  have HV := Hid.mk hV
  have HR := Hid.mk hR
  have HRb := Hid.mk hRb
  have HE := Hid.mk hE
  clear h hA hM hV hR hRb hE
  go_enter Ybad.func14, Ybad.ntmps14
  go_upto_if 25 with fail
  generalize hwa : ((w.setCell ⟨T, 25, none⟩ (.bool true)).alloc (Obj.cells #[.int .u64 0, .int .u64 0, .int .u32 0, .int .u64 0, .int .u64 v, .pointer z, .int .u16 pt] 41)) = wa
  have n1 : wa.cell? ⟨N, 23, none⟩ = some (.iface 57 (.pointer (some ⟨E, 0, none⟩))) := by
    rw [← hwa, World.cell?_alloc_lt _ _ _ (by simpa using z2), World.cell?_setCell_other _ _ _ _ (by simp)]
    exact H.out.nenv
  have t1 : wa.cell? ⟨T, 28, none⟩ = some (.int .u64 wait) := by
    rw [← hwa, World.cell?_alloc_lt _ _ _ (by simpa using z1), World.cell?_setCell_other _ _ _ _ (by simp)]
    exact H.out.twait
  have e1 : wa.heap[E]? = some (.cells #[.slice none 0 0, .int .i64 0] 60 (0, 0)) := by rw [← hwa]; exact hs_alloc (hs_other HE.out HA.out.et _ _) _
  have HWA := Hid.mk hwa
  have E1 := Hid.mk e1
  clear hwa e1 c1 c2 f1
  go_cut [] (fun wx => Stopped E wait wa wx)
  case first =>
    have hNE := HA.out.ne
    have hTE := HA.out.et.symm
    by_cases hw : wait = 0
    · have hw' : (wait != 0) = false := by simpa using hw
      go_wp2
      go_meet
      case rel => exact ⟨But.refl _ _, .inl ⟨hw, E1.out⟩⟩
    · have hw' : (wait != 0) = true := by simpa using hw
      go_wp2
      have hm := method_stop
      have zN : N < wa.heap.size := World.block_lt_of_cell? wa _ n1
      have zT : T < wa.heap.size := World.block_lt_of_cell? wa _ t1
      go_region_held3 (fun w' => w'.cell? ⟨N, 23, none⟩ = some (.iface 57 (.pointer (some ⟨E, 0, none⟩))) ∧ w'.cell? ⟨T, 28, none⟩ = some (.int .u64 wait))
        (first | exact ⟨n1, t1⟩ | exact ⟨(k4.cell zN (by simpa using hNE)).trans n1, (k4.cell zT (by simpa using hTE)).trans t1⟩)
        (first | (go_at_call 39; refine (stop_any E 0 wait wa.drew E1.out).mono ?_; rintro e w' ⟨rfl, g', c', k1, k2, k3, k4⟩))
      clear hm
      go_wp2
      go_meet
      case rel => exact ⟨⟨k4.os, k4.tape, k4.output, k4.size, k4.block⟩, .inr ⟨hw, g', c', k1, k2, k3⟩⟩
  case rest =>
    have HSt := Hid.mk hcut
    clear n1 t1 E1
    obtain ⟨hB1, hEnd⟩ := hcut
    have hB0 : But [T, E] w wa := by
      rw [← HWA.out]; exact ((But.refl _ _).setCell (by simp) _).alloc _
    have hB : But [T, E] w wc := hB0.trans (hB1.mono (by simp))
    have zE : E < w.heap.size := (Array.getElem?_eq_some_iff.1 HE.out).1
    have n1 : wc.cell? ⟨N, 213, none⟩ = some (.map (some M)) := (hB.cell z2 (by simpa using ⟨HA.out.nt, HA.out.ne⟩)).trans H.out.nmap
    have zT : T < wa.heap.size := Nat.lt_of_lt_of_le z1 hB0.size
    have tcell : ∀ i, i ≠ 25 → wc.cell? ⟨T, i, none⟩ = w.cell? ⟨T, i, none⟩ := fun i hi => by
      rw [hB1.cell zT (by simpa using HA.out.et.symm), ← HWA.out, World.cell?_alloc_lt _ _ _ (by simpa using z1), World.cell?_setCell_other _ _ _ _ (fun e => hi (Addr.mk.inj e).2.1.symm)]
    have t1 := (tcell 26 (by decide)).trans H.out.trefs
    have t2 := (tcell 24 (by decide)).trans H.out.tdone
    have t3 : wc.cell? ⟨T, 25, none⟩ = some (.bool true) := by
      rw [hB1.cell zT (by simpa using HA.out.et.symm), ← HWA.out, World.cell?_alloc_lt _ _ _ (by simpa using z1)]
      exact World.cell?_setCell_same _ _ _ H.out.tover
    have tb : ∃ C, wc.heap[T]? = some (.cells C 53 (0, 0)) := by
      obtain ⟨C, hC⟩ := H.out.tblk
      exact ⟨_, (hB1.block T zT (by simpa using HA.out.et.symm)).trans (by rw [← HWA.out]; exact hs_alloc (hs_same hC 25 _) _)⟩
    have TB := Hid.mk tb
    clear tb
    have q1 : wc.heap[w.heap.size]? = some (.cells #[.int .u64 0, .int .u64 0, .int .u32 0, .int .u64 0, .int .u64 v, .pointer z, .int .u16 pt] 41 (0, 0)) := by
      rw [hB1.block _ (by rw [← HWA.out]; simp) (by simp; omega), ← HWA.out]
      have := heap_new (w.setCell ⟨T, 25, none⟩ (.bool true)) (Obj.cells #[.int .u64 0, .int .u64 0, .int .u32 0, .int .u64 0, .int .u64 v, .pointer z, .int .u16 pt] 41)
      simpa using this
    have hMc : MapIs wc M m := by
      obtain ⟨es, c, h1, h2⟩ := HM.out
      exact ⟨es, c, by rw [hB.block M (Array.getElem?_eq_some_iff.1 h1).1 (by simpa using ⟨HA.out.mt, HA.out.em.symm⟩)]; exact h1, h2⟩
    have hRc : RowIs .u32 wc (.slice ra rl rc) rs := by
      rcases HR.out with ⟨h1, h2⟩ | ⟨x, c, h1, h2⟩
      · exact .inl ⟨h1, h2⟩
      · refine .inr ⟨x, c, h1, fun i hi => ?_⟩
        have hc := h2 i hi
        obtain ⟨q1, q2, q3⟩ := HRb.out x (by cases h1; rfl)
        rw [← hc]
        exact World.cell?_of_block (hB.block _ (World.block_lt_of_cell? w _ hc) (by rw [add_block]; simpa using ⟨q1, q2⟩))
    have HRc := Hid.mk hRc
    have HMc := Hid.mk hMc
    have HB := Hid.mk hB
    have HEnd := Hid.mk hEnd
    have T2 := Hid.mk t2
    have T3 := Hid.mk t3
    have Q1 := Hid.mk q1
    have N1 := Hid.mk n1
    have zN : N < wc.heap.size := World.block_lt_of_cell? wc _ n1
    have zT' : T < wc.heap.size := World.block_lt_of_cell? wc _ t1
    have hlen : rl = rs.length := by
      rcases hRc with ⟨h1, h2⟩ | ⟨x, c, h1, h2⟩
      · cases h1; rw [h2]; rfl
      · cases h1; rfl
    subst hlen
    clear hRc hMc hB hEnd t2 t3 q1 n1 hB0 hB1 tcell
    go_wp2
    go_loopw [42] (fun i wr => ∃ k : Nat, k ≤ rs.length ∧ i = .int .i64 k ∧ But [M] wc wr ∧ MapIs wr M ((rs.take k).foldl (fun m x => delP x m) m)) (fun i _ => rs.length - (intOf i).toNat)
    case atStart => exact ⟨0, Nat.zero_le _, rfl, But.refl _ _, HMc.out⟩
    case round =>
      obtain ⟨k, hk, rfl, hBr, hMr⟩ := hrel
      by_cases hlt : k < rs.length
      · obtain ⟨b, off, hra, hbM, hcell⟩ : ∃ b off, ra = some ⟨b, off, none⟩ ∧ b ≠ M ∧ wc.cell? ⟨b, off + k, none⟩ = some (.int .u32 (rs.getD k 0)) := by
          rcases HRc.out with ⟨h1, h2⟩ | ⟨x, c, h1, h2⟩
          · rw [h2] at hlt; exact absurd hlt (by simp)
          · obtain ⟨b, off, rfl, h3⟩ := row_at h2 (by omega)
            cases h1
            exact ⟨b, off, rfl, (HRb.out _ rfl).2.2, h3 k hlt⟩
        subst hra
        have c1 : wr.cell? ⟨b, off + k, none⟩ = some (.int .u32 (rs.getD k 0)) := (hBr.cell (World.block_lt_of_cell? wc _ hcell) (by simpa using hbM)).trans hcell
        have c2 : wr.cell? ⟨N, 213, none⟩ = some (.map (some M)) := (hBr.cell zN (by simpa using HA.out.nm)).trans N1.out
        have HBr := Hid.mk hBr
        have HMr := Hid.mk hMr
        clear hBr hMr hcell t1
        generalize hy : rs.getD k 0 = y at c1
        have HY := Hid.mk hy
        clear hy
        go_wp2_with (at_delete; refine wpList_del rfl _ _ rfl M rfl y rfl _ HMr.out ?_; intro w1 hb1 hm1)
        have hm2 : MapIs w1 M ((rs.take (k + 1)).foldl (fun m x => delP x m) m) := by
          rw [List.take_add_one, List.foldl_append]
          have hy := HY.out
          simp only [List.getD, List.getElem?_eq_getElem hlt, Option.getD_some] at hy
          simpa [hlt, hy] using hm1
        have HB1 := Hid.mk (HBr.out.trans hb1)
        have HM2 := Hid.mk hm2
        clear hb1 hm1 hm2
        go_wp2
        go_roundw
        case rel => exact ⟨k + 1, by omega, by go_num, HB1.out, HM2.out⟩
        case measure => simp [intOf]; omega
      · have hke : k = rs.length := by omega
        subst hke
        rw [List.take_of_length_le (Nat.le_refl _)] at hMr
        have t2 : wr.cell? ⟨T, 24, none⟩ = _ := (hBr.cell zT' (by simpa using HA.out.mt.symm)).trans T2.out
        have zq : w.heap.size < wc.heap.size := (Array.getElem?_eq_some_iff.1 Q1.out).1
        have zM : M < w.heap.size := by
          obtain ⟨es, c, h1, h2⟩ := HM.out
          exact (Array.getElem?_eq_some_iff.1 h1).1
        have q1 : wr.heap[w.heap.size]? = some (.cells #[.int .u64 0, .int .u64 0, .int .u32 0, .int .u64 0, .int .u64 v, .pointer z, .int .u16 pt] 41 (0, 0)) := by
          rw [hBr.block _ zq (by simp; omega)]; exact Q1.out
        have q2 := cell_blk q1
        have hVr : Vars g wr 0 0 #[o0, o1, o2, o3, o4, o5, o6] s0 p0 e0 := by
          have key : ∀ x ∈ six g, ∀ o, w.heap[x]? = some o → wr.heap[x]? = some o := fun x hx o ho => by
            have hz := (Array.getElem?_eq_some_iff.1 ho).1
            obtain ⟨s1, s2, s3, s4⟩ := HA.out.s x hx
            rw [hBr.block x (Nat.lt_of_lt_of_le hz HB.out.size) (by simpa using s3), HB.out.block x hz (by simpa using ⟨s4, s2⟩)]
            exact ho
          exact ⟨key _ (by simp [six]) _ HV.out.b0, key _ (by simp [six]) _ HV.out.b1, key _ (by simp [six]) _ HV.out.b2, key _ (by simp [six]) _ HV.out.b3, key _ (by simp [six]) _ HV.out.b4, key _ (by simp [six]) _ HV.out.b5⟩
        have HBr := Hid.mk hBr
        have HMr := Hid.mk hMr
        have HVr := Hid.mk hVr
        clear hBr hMr hVr q1 t1
        have zT2 : T < wr.heap.size := Nat.lt_of_lt_of_le zT' HBr.out.size
        have zq2 : w.heap.size < wr.heap.size := Nat.lt_of_lt_of_le zq HBr.out.size
        have zg : g + 5 < w.heap.size := (Array.getElem?_eq_some_iff.1 HV.out.b5).1
        have nT : T ∉ six g := fun hx => (HA.out.s T hx).2.2.2 rfl
        have nq : w.heap.size ∉ six g := by simp [six]; omega
        have a0 : wr.cell? ⟨w.heap.size, 0, none⟩ = some (.int .u64 0) := q2 0
        have a1 : wr.cell? ⟨w.heap.size, 1, none⟩ = some (.int .u64 0) := q2 1
        have a2 : wr.cell? ⟨w.heap.size, 2, none⟩ = some (.int .u32 0) := q2 2
        have a3 : wr.cell? ⟨w.heap.size, 3, none⟩ = some (.int .u64 0) := q2 3
        have a4 : wr.cell? ⟨w.heap.size, 4, none⟩ = some (.int .u64 v) := q2 4
        have a5 : wr.cell? ⟨w.heap.size, 5, none⟩ = some (.pointer z) := q2 5
        have a6 : wr.cell? ⟨w.heap.size, 6, none⟩ = some (.int .u16 pt) := q2 6
        clear q2
        go_wp2
        go_region_held3 (fun w' => w'.cell? ⟨T, 24, none⟩ = some (.func (.func 5) #[] #[.pointer (some ⟨g, 0, none⟩), .pointer (some ⟨g + 1, 0, none⟩), .pointer (some ⟨g + 2, 0, none⟩), .pointer (some ⟨g + 3, 0, none⟩), .pointer (some ⟨g + 4, 0, none⟩), .pointer (some ⟨g + 5, 0, none⟩)]) ∧
            w'.cell? ⟨w.heap.size, 0, none⟩ = some (.int .u64 0) ∧ w'.cell? ⟨w.heap.size, 1, none⟩ = some (.int .u64 0) ∧ w'.cell? ⟨w.heap.size, 2, none⟩ = some (.int .u32 0) ∧ w'.cell? ⟨w.heap.size, 3, none⟩ = some (.int .u64 0) ∧ w'.cell? ⟨w.heap.size, 4, none⟩ = some (.int .u64 v) ∧ w'.cell? ⟨w.heap.size, 5, none⟩ = some (.pointer z) ∧ w'.cell? ⟨w.heap.size, 6, none⟩ = some (.int .u16 pt))
          (first | exact ⟨t2, a0, a1, a2, a3, a4, a5, a6⟩ | exact ⟨(k1.cell zT2 nT).trans t2, (k1.cell zq2 nq).trans a0, (k1.cell zq2 nq).trans a1, (k1.cell zq2 nq).trans a2, (k1.cell zq2 nq).trans a3, (k1.cell zq2 nq).trans a4, (k1.cell zq2 nq).trans a5, (k1.cell zq2 nq).trans a6⟩)
          (first | (go_at_call 5; refine (done1 g v z pt sa sl sc pa pl pc e he o0 o1 o2 o3 o4 o5 o6 s0 p0 e0 wr.drew ⟨HVr.out.b0, HVr.out.b1, HVr.out.b2, HVr.out.b3, HVr.out.b4, HVr.out.b5⟩).mono ?_; rintro e w' ⟨rfl, k1, k2⟩))
        go_end0
        exact ⟨rfl, settled_of HA.out (by rw [← HWA.out]; simp) HB.out HBr.out k1 zE zM z1 zg k2 HMr.out T3.out TB.out HEnd.out⟩

set_option maxRecDepth 100000 in
set_option maxHeartbeats 2000000 in
theorem settle_d (N E M T g : Nat) (ra : Option Addr) (rl rc : Nat) (rs : List Int) (wait : Int) (v : Int) (z : Option Addr) (pt : Int) (sa : Option Addr) (sl sc : Nat) (pa : Option Addr) (pl pc : Nat) (e : Value) (he : e = .nilIface ∨ ∃ x, e = .iface 122 (.pointer (some x))) (o0 o1 o2 o3 o4 o5 o6 s0 p0 e0 : Value) (m : List (Int × Value)) (w : World) (h : Setting N E M T 6 g false ra rl rc wait w)
    (hE : w.heap[E]? = some (.cells #[.slice none 0 0, .int .i64 0] 60 (0, 0))) (hA : Apart N E M T g) (hM : MapIs w M m) (hV : Vars g w 0 0 #[o0, o1, o2, o3, o4, o5, o6] s0 p0 e0)
    (hR : RowIs .u32 w (.slice ra rl rc) rs) (hRl : rs.length ≤ 9223372036854775806) (hRb : ∀ x, ra = some x → x.block ≠ T ∧ x.block ≠ E ∧ x.block ≠ M) :
    Calls Ybad.prog 14 #[.pointer (some ⟨N, 0, none⟩), .pointer (some ⟨T, 0, none⟩), .agg #[.int .u64 0, .int .u64 0, .int .u32 0, .int .u64 0, .int .u64 v, .pointer z, .int .u16 pt], .slice sa sl sc, .slice pa pl pc, e] w
      fun r w' => r = .returned (.tuple #[]) ∧ Settled E M T g m rs wait 2 #[.int .u64 0, .int .u64 0, .int .u32 0, .int .u64 0, .int .u64 v, .pointer z, .int .u16 pt] (.slice sa sl sc) (.slice pa pl pc) e w w' := by
  have c1 := h.tover
  have c2 := h.twait
  have f1 := h.tfree
  have z1 := World.block_lt_of_cell? w _ c1
  have z2 := World.block_lt_of_cell? w _ h.nenv
  have H := Hid.mk h
  have HA := Hid.mk hA
  have HM := Hid.mk hM
  have HV := Hid.mk hV
  have HR := Hid.mk hR
  have HRb := Hid.mk hRb
  have HE := Hid.mk hE
  clear h hA hM hV hR hRb hE
  go_enter Ybad.func14, Ybad.ntmps14
  go_upto_if 25 with fail
  generalize hwa : ((w.setCell ⟨T, 25, none⟩ (.bool true)).alloc (Obj.cells #[.int .u64 0, .int .u64 0, .int .u32 0, .int .u64 0, .int .u64 v, .pointer z, .int .u16 pt] 41)) = wa
  have n1 : wa.cell? ⟨N, 23, none⟩ = some (.iface 57 (.pointer (some ⟨E, 0, none⟩))) := by
    rw [← hwa, World.cell?_alloc_lt _ _ _ (by simpa using z2), World.cell?_setCell_other _ _ _ _ (by simp)]
    exact H.out.nenv
  have t1 : wa.cell? ⟨T, 28, none⟩ = some (.int .u64 wait) := by
    rw [← hwa, World.cell?_alloc_lt _ _ _ (by simpa using z1), World.cell?_setCell_other _ _ _ _ (by simp)]
    exact H.out.twait
  have e1 : wa.heap[E]? = some (.cells #[.slice none 0 0, .int .i64 0] 60 (0, 0)) := by rw [← hwa]; exact hs_alloc (hs_other HE.out HA.out.et _ _) _
  have HWA := Hid.mk hwa
  have E1 := Hid.mk e1
  clear hwa e1 c1 c2 f1
  go_cut [] (fun wx => Stopped E wait wa wx)
  case first =>
    have hNE := HA.out.ne
    have hTE := HA.out.et.symm
    by_cases hw : wait = 0
    · have hw' : (wait != 0) = false := by simpa using hw
      go_wp2
      go_meet
      case rel => exact ⟨But.refl _ _, .inl ⟨hw, E1.out⟩⟩
    · have hw' : (wait != 0) = true := by simpa using hw
      go_wp2
      have hm := method_stop
      have zN : N < wa.heap.size := World.block_lt_of_cell? wa _ n1
      have zT : T < wa.heap.size := World.block_lt_of_cell? wa _ t1
      go_region_held3 (fun w' => w'.cell? ⟨N, 23, none⟩ = some (.iface 57 (.pointer (some ⟨E, 0, none⟩))) ∧ w'.cell? ⟨T, 28, none⟩ = some (.int .u64 wait))
        (first | exact ⟨n1, t1⟩ | exact ⟨(k4.cell zN (by simpa using hNE)).trans n1, (k4.cell zT (by simpa using hTE)).trans t1⟩)
        (first | (go_at_call 39; refine (stop_any E 0 wait wa.drew E1.out).mono ?_; rintro e w' ⟨rfl, g', c', k1, k2, k3, k4⟩))
      clear hm
      go_wp2
      go_meet
      case rel => exact ⟨⟨k4.os, k4.tape, k4.output, k4.size, k4.block⟩, .inr ⟨hw, g', c', k1, k2, k3⟩⟩
  case rest =>
    have HSt := Hid.mk hcut
    clear n1 t1 E1
    obtain ⟨hB1, hEnd⟩ := hcut
    have hB0 : But [T, E] w wa := by
      rw [← HWA.out]; exact ((But.refl _ _).setCell (by simp) _).alloc _
    have hB : But [T, E] w wc := hB0.trans (hB1.mono (by simp))
    have zE : E < w.heap.size := (Array.getElem?_eq_some_iff.1 HE.out).1
    have n1 : wc.cell? ⟨N, 213, none⟩ = some (.map (some M)) := (hB.cell z2 (by simpa using ⟨HA.out.nt, HA.out.ne⟩)).trans H.out.nmap
    have zT : T < wa.heap.size := Nat.lt_of_lt_of_le z1 hB0.size
    have tcell : ∀ i, i ≠ 25 → wc.cell? ⟨T, i, none⟩ = w.cell? ⟨T, i, none⟩ := fun i hi => by
      rw [hB1.cell zT (by simpa using HA.out.et.symm), ← HWA.out, World.cell?_alloc_lt _ _ _ (by simpa using z1), World.cell?_setCell_other _ _ _ _ (fun e => hi (Addr.mk.inj e).2.1.symm)]
    have t1 := (tcell 26 (by decide)).trans H.out.trefs
    have t2 := (tcell 24 (by decide)).trans H.out.tdone
    have t3 : wc.cell? ⟨T, 25, none⟩ = some (.bool true) := by
      rw [hB1.cell zT (by simpa using HA.out.et.symm), ← HWA.out, World.cell?_alloc_lt _ _ _ (by simpa using z1)]
      exact World.cell?_setCell_same _ _ _ H.out.tover
    have tb : ∃ C, wc.heap[T]? = some (.cells C 53 (0, 0)) := by
      obtain ⟨C, hC⟩ := H.out.tblk
      exact ⟨_, (hB1.block T zT (by simpa using HA.out.et.symm)).trans (by rw [← HWA.out]; exact hs_alloc (hs_same hC 25 _) _)⟩
    have TB := Hid.mk tb
    clear tb
    have q1 : wc.heap[w.heap.size]? = some (.cells #[.int .u64 0, .int .u64 0, .int .u32 0, .int .u64 0, .int .u64 v, .pointer z, .int .u16 pt] 41 (0, 0)) := by
      rw [hB1.block _ (by rw [← HWA.out]; simp) (by simp; omega), ← HWA.out]
      have := heap_new (w.setCell ⟨T, 25, none⟩ (.bool true)) (Obj.cells #[.int .u64 0, .int .u64 0, .int .u32 0, .int .u64 0, .int .u64 v, .pointer z, .int .u16 pt] 41)
      simpa using this
    have hMc : MapIs wc M m := by
      obtain ⟨es, c, h1, h2⟩ := HM.out
      exact ⟨es, c, by rw [hB.block M (Array.getElem?_eq_some_iff.1 h1).1 (by simpa using ⟨HA.out.mt, HA.out.em.symm⟩)]; exact h1, h2⟩
    have hRc : RowIs .u32 wc (.slice ra rl rc) rs := by
      rcases HR.out with ⟨h1, h2⟩ | ⟨x, c, h1, h2⟩
      · exact .inl ⟨h1, h2⟩
      · refine .inr ⟨x, c, h1, fun i hi => ?_⟩
        have hc := h2 i hi
        obtain ⟨q1, q2, q3⟩ := HRb.out x (by cases h1; rfl)
        rw [← hc]
        exact World.cell?_of_block (hB.block _ (World.block_lt_of_cell? w _ hc) (by rw [add_block]; simpa using ⟨q1, q2⟩))
    have HRc := Hid.mk hRc
    have HMc := Hid.mk hMc
    have HB := Hid.mk hB
    have HEnd := Hid.mk hEnd
    have T2 := Hid.mk t2
    have T3 := Hid.mk t3
    have Q1 := Hid.mk q1
    have N1 := Hid.mk n1
    have zN : N < wc.heap.size := World.block_lt_of_cell? wc _ n1
    have zT' : T < wc.heap.size := World.block_lt_of_cell? wc _ t1
    have hlen : rl = rs.length := by
      rcases hRc with ⟨h1, h2⟩ | ⟨x, c, h1, h2⟩
      · cases h1; rw [h2]; rfl
      · cases h1; rfl
    subst hlen
    clear hRc hMc hB hEnd t2 t3 q1 n1 hB0 hB1 tcell
    go_wp2
    go_loopw [42] (fun i wr => ∃ k : Nat, k ≤ rs.length ∧ i = .int .i64 k ∧ But [M] wc wr ∧ MapIs wr M ((rs.take k).foldl (fun m x => delP x m) m)) (fun i _ => rs.length - (intOf i).toNat)
    case atStart => exact ⟨0, Nat.zero_le _, rfl, But.refl _ _, HMc.out⟩
    case round =>
      obtain ⟨k, hk, rfl, hBr, hMr⟩ := hrel
      by_cases hlt : k < rs.length
      · obtain ⟨b, off, hra, hbM, hcell⟩ : ∃ b off, ra = some ⟨b, off, none⟩ ∧ b ≠ M ∧ wc.cell? ⟨b, off + k, none⟩ = some (.int .u32 (rs.getD k 0)) := by
          rcases HRc.out with ⟨h1, h2⟩ | ⟨x, c, h1, h2⟩
          · rw [h2] at hlt; exact absurd hlt (by simp)
          · obtain ⟨b, off, rfl, h3⟩ := row_at h2 (by omega)
            cases h1
            exact ⟨b, off, rfl, (HRb.out _ rfl).2.2, h3 k hlt⟩
        subst hra
        have c1 : wr.cell? ⟨b, off + k, none⟩ = some (.int .u32 (rs.getD k 0)) := (hBr.cell (World.block_lt_of_cell? wc _ hcell) (by simpa using hbM)).trans hcell
        have c2 : wr.cell? ⟨N, 213, none⟩ = some (.map (some M)) := (hBr.cell zN (by simpa using HA.out.nm)).trans N1.out
        have HBr := Hid.mk hBr
        have HMr := Hid.mk hMr
        clear hBr hMr hcell t1
        generalize hy : rs.getD k 0 = y at c1
        have HY := Hid.mk hy
        clear hy
        go_wp2_with (at_delete; refine wpList_del rfl _ _ rfl M rfl y rfl _ HMr.out ?_; intro w1 hb1 hm1)
        have hm2 : MapIs w1 M ((rs.take (k + 1)).foldl (fun m x => delP x m) m) := by
          rw [List.take_add_one, List.foldl_append]
          have hy := HY.out
          simp only [List.getD, List.getElem?_eq_getElem hlt, Option.getD_some] at hy
          simpa [hlt, hy] using hm1
        have HB1 := Hid.mk (HBr.out.trans hb1)
        have HM2 := Hid.mk hm2
        clear hb1 hm1 hm2
        go_wp2
        go_roundw
        case rel => exact ⟨k + 1, by omega, by go_num, HB1.out, HM2.out⟩
        case measure => simp [intOf]; omega
      · have hke : k = rs.length := by omega
        subst hke
        rw [List.take_of_length_le (Nat.le_refl _)] at hMr
        have t2 : wr.cell? ⟨T, 24, none⟩ = _ := (hBr.cell zT' (by simpa using HA.out.mt.symm)).trans T2.out
        have zq : w.heap.size < wc.heap.size := (Array.getElem?_eq_some_iff.1 Q1.out).1
        have zM : M < w.heap.size := by
          obtain ⟨es, c, h1, h2⟩ := HM.out
          exact (Array.getElem?_eq_some_iff.1 h1).1
        have q1 : wr.heap[w.heap.size]? = some (.cells #[.int .u64 0, .int .u64 0, .int .u32 0, .int .u64 0, .int .u64 v, .pointer z, .int .u16 pt] 41 (0, 0)) := by
          rw [hBr.block _ zq (by simp; omega)]; exact Q1.out
        have q2 := cell_blk q1
        have hVr : Vars g wr 0 0 #[o0, o1, o2, o3, o4, o5, o6] s0 p0 e0 := by
          have key : ∀ x ∈ six g, ∀ o, w.heap[x]? = some o → wr.heap[x]? = some o := fun x hx o ho => by
            have hz := (Array.getElem?_eq_some_iff.1 ho).1
            obtain ⟨s1, s2, s3, s4⟩ := HA.out.s x hx
            rw [hBr.block x (Nat.lt_of_lt_of_le hz HB.out.size) (by simpa using s3), HB.out.block x hz (by simpa using ⟨s4, s2⟩)]
            exact ho
          exact ⟨key _ (by simp [six]) _ HV.out.b0, key _ (by simp [six]) _ HV.out.b1, key _ (by simp [six]) _ HV.out.b2, key _ (by simp [six]) _ HV.out.b3, key _ (by simp [six]) _ HV.out.b4, key _ (by simp [six]) _ HV.out.b5⟩
        have HBr := Hid.mk hBr
        have HMr := Hid.mk hMr
        have HVr := Hid.mk hVr
        clear hBr hMr hVr q1 t1
        have zT2 : T < wr.heap.size := Nat.lt_of_lt_of_le zT' HBr.out.size
        have zq2 : w.heap.size < wr.heap.size := Nat.lt_of_lt_of_le zq HBr.out.size
        have zg : g + 5 < w.heap.size := (Array.getElem?_eq_some_iff.1 HV.out.b5).1
        have nT : T ∉ six g := fun hx => (HA.out.s T hx).2.2.2 rfl
        have nq : w.heap.size ∉ six g := by simp [six]; omega
        have a0 : wr.cell? ⟨w.heap.size, 0, none⟩ = some (.int .u64 0) := q2 0
        have a1 : wr.cell? ⟨w.heap.size, 1, none⟩ = some (.int .u64 0) := q2 1
        have a2 : wr.cell? ⟨w.heap.size, 2, none⟩ = some (.int .u32 0) := q2 2
        have a3 : wr.cell? ⟨w.heap.size, 3, none⟩ = some (.int .u64 0) := q2 3
        have a4 : wr.cell? ⟨w.heap.size, 4, none⟩ = some (.int .u64 v) := q2 4
        have a5 : wr.cell? ⟨w.heap.size, 5, none⟩ = some (.pointer z) := q2 5
        have a6 : wr.cell? ⟨w.heap.size, 6, none⟩ = some (.int .u16 pt) := q2 6
        clear q2
        go_wp2
        go_region_held3 (fun w' => w'.cell? ⟨T, 24, none⟩ = some (.func (.func 6) #[] #[.pointer (some ⟨g, 0, none⟩), .pointer (some ⟨g + 1, 0, none⟩), .pointer (some ⟨g + 2, 0, none⟩), .pointer (some ⟨g + 3, 0, none⟩), .pointer (some ⟨g + 4, 0, none⟩), .pointer (some ⟨g + 5, 0, none⟩)]) ∧
            w'.cell? ⟨w.heap.size, 0, none⟩ = some (.int .u64 0) ∧ w'.cell? ⟨w.heap.size, 1, none⟩ = some (.int .u64 0) ∧ w'.cell? ⟨w.heap.size, 2, none⟩ = some (.int .u32 0) ∧ w'.cell? ⟨w.heap.size, 3, none⟩ = some (.int .u64 0) ∧ w'.cell? ⟨w.heap.size, 4, none⟩ = some (.int .u64 v) ∧ w'.cell? ⟨w.heap.size, 5, none⟩ = some (.pointer z) ∧ w'.cell? ⟨w.heap.size, 6, none⟩ = some (.int .u16 pt))
          (first | exact ⟨t2, a0, a1, a2, a3, a4, a5, a6⟩ | exact ⟨(k1.cell zT2 nT).trans t2, (k1.cell zq2 nq).trans a0, (k1.cell zq2 nq).trans a1, (k1.cell zq2 nq).trans a2, (k1.cell zq2 nq).trans a3, (k1.cell zq2 nq).trans a4, (k1.cell zq2 nq).trans a5, (k1.cell zq2 nq).trans a6⟩)
          (first | (go_at_call 6; refine (done2 g v z pt sa sl sc pa pl pc e he o0 o1 o2 o3 o4 o5 o6 s0 p0 e0 wr.drew ⟨HVr.out.b0, HVr.out.b1, HVr.out.b2, HVr.out.b3, HVr.out.b4, HVr.out.b5⟩).mono ?_; rintro e w' ⟨rfl, k1, k2⟩))
        go_end0
        exact ⟨rfl, settled_of HA.out (by rw [← HWA.out]; simp) HB.out HBr.out k1 zE zM z1 zg k2 HMr.out T3.out TB.out HEnd.out⟩

end Go.Proofs.YbulkdscsDoor
