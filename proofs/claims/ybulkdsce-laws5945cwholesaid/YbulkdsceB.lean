/-
  LawS5945CWhole (3): what its first loop makes; plain lemmas.
-/
import Derived.Test.YbulkdsceA
import Derived.Laws.CopyOwn
import Derived.LaidEql
namespace Go.Proofs.Ybulkdsce
open Go.RowKit

def srcCells (r k t : Int) : List Value :=
  [.int .u8 0, .int .i64 0, .int .u64 0, .int .i64 0, .pointer none, .int .u64 0, .int .i64 0, .pointer none, .nilIface, .slice none 0 0, .int .u64 k, .int .u64 r, .int .i64 t]

theorem rangeAt_below {w w' : World} {b o : Nat} {cs : List Value} (h : w.rangeAt b o cs) (hb : Below w.heap.size w w') : w'.rangeAt b o cs := fun j v hv => by
  have := h j v hv
  rw [hb.cell (World.block_lt_of_cell? w _ this)]; exact this

/-- The sources made so far. -/
structure Made (w : World) (G n : Nat) (zr zk : Nat → Int) (S : List Nat) (wr : World) : Prop where
  below : Below w.heap.size w wr
  row : ∃ c : Array Value, wr.heap[G]? = some (.cells c 26 (0, 0)) ∧ c.size = n
  tcell : ∀ (j b : Nat), S[j]? = some b → wr.cell? ⟨G, j, none⟩ = some (.pointer (some ⟨b, 0, none⟩)) ∧ G < b
  src : ∀ (j b : Nat), S[j]? = some b → wr.rangeAt b 0 (srcCells (zr j) (zk j) (j + 1))

theorem Made.size {w : World} {G n : Nat} {zr zk : Nat → Int} {S : List Nat} {wr : World} (h : Made w G n zr zk S wr) : G < wr.heap.size := by
  obtain ⟨c, h1, _⟩ := h.row
  exact (Array.getElem?_eq_some_iff.1 h1).1

theorem Made.cellAt {w : World} {G n : Nat} {zr zk : Nat → Int} {S : List Nat} {wr : World} (h : Made w G n zr zk S wr) {k : Nat} (hk : k < n) : (∃ v, wr.cell? ⟨G, k, none⟩ = some v) ∧ wr.frozen? ⟨G, k, none⟩ = false := by
  obtain ⟨c, h1, h2⟩ := h.row
  refine ⟨⟨c[k]'(by omega), ?_⟩, ?_⟩
  · simp [World.cell?, h1, h2, hk]
  · simp [World.frozen?, h1]

theorem Made.start {w wr : World} {n : Nat} {v : List Value} {zr zk : Nat → Int} (ho : wr.ownsRow w.heap.size 26 1 (.slice (some ⟨w.heap.size, 0, none⟩) n n) n v) (hg : w.grownBy wr none) :
    Made w w.heap.size n zr zk [] wr := by
  refine ⟨(Below.refl _ _).grown hg (Nat.le_refl _) (by simp), ?_, fun j b h => by simp at h, fun j b h => by simp at h⟩
  rcases ho.2 with ⟨h, _⟩ | ⟨g, cap, cur, h, _, hh, _, _, hc, _⟩
  · simp at h
  · simp at h
    obtain ⟨rfl, rfl⟩ := h
    exact ⟨cur, hh, by omega⟩

/-- One round of the first loop. -/
theorem Made.step {w : World} {G n : Nat} {zr zk : Nat → Int} {S : List Nat} {wr : World} (h : Made w G n zr zk S wr) (hG : w.heap.size ≤ G) (hk : S.length < n) :
    Made w G n zr zk (S ++ [wr.heap.size]) ((wr.alloc (.cells (srcCells (zr S.length) (zk S.length) (S.length + 1)).toArray 38)).setCell ⟨G, S.length, none⟩ (.pointer (some ⟨wr.heap.size, 0, none⟩))) := by
  have hsz := h.size
  have hb1 : Below wr.heap.size wr (wr.alloc (.cells (srcCells (zr S.length) (zk S.length) (S.length + 1)).toArray 38)) := (Below.refl _ _).alloc (Nat.le_refl _) _
  have hother : ∀ b, b ≠ G → ∀ o, ((wr.alloc (.cells (srcCells (zr S.length) (zk S.length) (S.length + 1)).toArray 38)).setCell ⟨G, S.length, none⟩ (.pointer (some ⟨wr.heap.size, 0, none⟩))).cell? ⟨b, o, none⟩ =
      (wr.alloc (.cells (srcCells (zr S.length) (zk S.length) (S.length + 1)).toArray 38)).cell? ⟨b, o, none⟩ := fun b hb o => World.cell?_setCell_other _ _ _ _ (fun e => hb (by cases e; rfl))
  have split : ∀ (j b : Nat), (S ++ [wr.heap.size])[j]? = some b → S[j]? = some b ∨ (j = S.length ∧ b = wr.heap.size) := by
    intro j b hj
    rcases Nat.lt_or_ge j S.length with hl | hl
    · rw [List.getElem?_append_left hl] at hj; exact .inl hj
    · have hj' : j = S.length := by
        have := (List.getElem?_eq_some_iff.1 hj).1
        simp at this; omega
      subst hj'
      simp at hj
      exact .inr ⟨rfl, hj.symm⟩
  refine ⟨(h.below.alloc h.below.size _).setCell hG _, ?_, ?_, ?_⟩
  · obtain ⟨c, h1, h2⟩ := h.row
    refine ⟨c.setIfInBounds S.length (.pointer (some ⟨wr.heap.size, 0, none⟩)), ?_, by simpa using h2⟩
    have : (wr.alloc (.cells (srcCells (zr S.length) (zk S.length) (S.length + 1)).toArray 38)).heap[G]? = some (.cells c 26 (0, 0)) := by
      rw [Below.heap_alloc _ _ _ hsz]; exact h1
    simp only [World.setCell, Array.getElem?_modify, this]
    simp
  · intro j b hj
    rcases split j b hj with hj | ⟨rfl, rfl⟩
    · obtain ⟨h1, h2⟩ := h.tcell j b hj
      have hl : j < S.length := (List.getElem?_eq_some_iff.1 hj).1
      refine ⟨?_, h2⟩
      rw [World.cell?_setCell_other _ _ _ _ (fun e => by cases e; omega), hb1.cell (by simpa using hsz)]
      exact h1
    · obtain ⟨v, hv⟩ := (h.cellAt hk).1
      refine ⟨World.cell?_setCell_same _ _ _ (u := v) ?_, hsz⟩
      rw [hb1.cell (by simpa using hsz)]; exact hv
  · intro j b hj i v hv
    rcases split j b hj with hj | ⟨rfl, rfl⟩
    · have h2 := (h.tcell j b hj).2
      rw [hother b (by omega)]
      exact rangeAt_below (h.src j b hj) hb1 i v hv
    · rw [hother _ (by omega), World.cell?_alloc_at _ _ _ _ rfl]
      simpa using hv

theorem Yba.size26 : (Yba.prog.info? 26).map (·.size) = some 1 := by kernel_rfl

theorem made_step {w : World} {G n k : Nat} {zr zk : Nat → Int} {S : List Nat} {wr : World} (h : Made w G n zr zk S wr) (hS : S.length = k) (hk : k < n) (hG : w.heap.size ≤ G) :
    Made w G n zr zk (S ++ [wr.heap.size]) ((wr.setCell ⟨G, k, none⟩ (.pointer (some ⟨wr.heap.size, 0, none⟩))).alloc (.cells (srcCells (zr k) (zk k) (k + 1)).toArray 38)) := by
  subst hS
  have := h.step hG hk
  rw [World.setCell_alloc_past _ _ _ _ h.size] at this
  exact this

theorem Made.later {w : World} {G n : Nat} {zr zk : Nat → Int} {S : List Nat} {wr w1 : World} (h : Made w G n zr zk S wr) (hb : Below wr.heap.size wr w1) : Made w G n zr zk S w1 where
  below := h.below.trans (hb.mono h.below.size)
  row := by
    obtain ⟨c, h1, h2⟩ := h.row
    exact ⟨c, by rw [hb.block _ h.size]; exact h1, h2⟩
  tcell j b hj := by
    obtain ⟨h1, h2⟩ := h.tcell j b hj
    exact ⟨by rw [hb.cell h.size]; exact h1, h2⟩
  src j b hj := rangeAt_below (h.src j b hj) hb

theorem made_row {w wr : World} {n : Nat} {v : List Value} (ho : wr.ownsRow w.heap.size 26 1 (.slice (some ⟨w.heap.size, 0, none⟩) n n) n v) (hg : w.grownBy wr none) :
    ∃ cur : Array Value, wr.heap[w.heap.size]? = some (.cells cur 26 (0, 0)) ∧ cur.size = n ∧ Below w.heap.size w wr := by
  rcases ho.2 with ⟨h, _⟩ | ⟨g, cap, cur, h, _, hh, _, _, hc, _⟩
  · simp at h
  · simp at h
    obtain ⟨rfl, rfl⟩ := h
    exact ⟨cur, hh, by omega, (Below.refl _ _).grown hg (Nat.le_refl _) (by simp)⟩

def ptrs (S : List Nat) : List Value := S.map fun b => .pointer (some ⟨b, 0, none⟩)
theorem ptrs_one (S : List Nat) : ∀ v ∈ ptrs S, v.oneCell' = true := by
  intro v hv
  simp only [ptrs, List.mem_map] at hv
  obtain ⟨b, _, rfl⟩ := hv
  rfl
theorem Made.ptrs_at {w : World} {G n : Nat} {zr zk : Nat → Int} {S : List Nat} {wr : World} (h : Made w G n zr zk S wr) : ∀ j v, (ptrs S)[j]? = some v → wr.cell? ((⟨G, 0, none⟩ : Addr).add j) = some v := by
  intro j v hv
  simp only [ptrs, List.getElem?_map, Option.map_eq_some_iff] at hv
  obtain ⟨b, hb, rfl⟩ := hv
  rw [Addr.add_mid, Nat.zero_add]
  exact (h.tcell j b hb).1

theorem Yba.info26 : (Yba.prog.info? 26).map (fun i => (i.zero, i.size, i.bytes)) = some (some (.pointer none), 1, 8) := by kernel_rfl

/-- Behind 'copy(keep, t)': both rows lead to the sources. -/
structure Held (w : World) (G K : Nat) (zr zk : Nat → Int) (S : List Nat) (wz : World) : Prop where
  below : Below w.heap.size w wz
  tcell : ∀ (j b : Nat), S[j]? = some b → wz.cell? ⟨G, j, none⟩ = some (.pointer (some ⟨b, 0, none⟩))
  kcell : ∀ (j b : Nat), S[j]? = some b → wz.cell? ⟨K, j, none⟩ = some (.pointer (some ⟨b, 0, none⟩))
  src : ∀ (j b : Nat), S[j]? = some b → wz.rangeAt b 0 (srcCells (zr j) (zk j) (j + 1))

theorem held_copy {w : World} {G n : Nat} {zr zk : Nat → Int} {S : List Nat} {wr wk : World} (hr : Made w G n zr zk S wr) (hk : Below wr.heap.size wr wk) {cur : Array Value} (hcur : wk.heap[wr.heap.size]? = some (.cells cur 26 (0, 0)))
    (hc : cur.size = n) (hS : S.length = n) :
    Held w G wr.heap.size zr zk S (wk.setRow wr.heap.size (ptrs S ++ List.drop (ptrs S).length cur.toList).toArray) := by
  have hmk := hr.later hk
  have hpl : (ptrs S).length = n := by simp [ptrs, hS]
  have hd : List.drop (ptrs S).length cur.toList = [] := List.drop_eq_nil_of_le (by simp; omega)
  rw [hd, List.append_nil]
  have hoth : ∀ b, b < wr.heap.size → ∀ o, (wk.setRow wr.heap.size (ptrs S).toArray).cell? ⟨b, o, none⟩ = wk.cell? ⟨b, o, none⟩ := fun b hb o => World.cell?_of_block (setRow_other wk _ b _ (by omega))
  refine ⟨below_setRow hmk.below hr.below.size _, fun j b hj => ?_, fun j b hj => ?_, fun j b hj i v hv => ?_⟩
  · rw [hoth _ hr.size]; exact (hmk.tcell j b hj).1
  · have hb : (wk.setRow wr.heap.size (ptrs S).toArray).heap[wr.heap.size]? = some (.cells (ptrs S).toArray 26 (0, 0)) := setRow_heap wk _ cur _ 26 _ hcur
    simp only [World.cell?, hb]
    simp [ptrs, hj]
  · have hlt : b < wr.heap.size := World.block_lt_of_cell? wr ⟨b, 0, none⟩ ((hr.src j b hj) 0 _ rfl)
    rw [hoth b hlt]
    exact hmk.src j b hj i v hv

theorem Held.drewN {w : World} {G K : Nat} {zr zk : Nat → Int} {S : List Nat} {wz : World} (h : Held w G K zr zk S wz) (q : Nat) : Held w G K zr zk S (wz.drewN q) :=
  ⟨⟨h.below.os, h.below.tape, h.below.output, h.below.size, h.below.block⟩, h.tcell, h.kcell, h.src⟩

theorem mod_nat (i : Int) (n : Nat) (hn : 0 < n) (hn1 : n ≤ 1048576) : ∃ a : Nat, wrap64 (i % ↑n) = (a : Int) ∧ a < n := by
  have h1 : 0 ≤ i % (n : Int) := Int.emod_nonneg _ (by omega)
  have h2 : i % (n : Int) < n := Int.emod_lt_of_pos _ (by omega)
  refine ⟨(i % (n : Int)).toNat, ?_, by omega⟩
  unfold wrap64
  omega

theorem less_lt {ra ka rb kb : Int} (h : ra < rb) : lessB ra ka rb kb = true := by
  unfold lessB; rw [if_neg (by omega)]; simpa using h
theorem less_gt {ra ka rb kb : Int} (h : rb < ra) : lessB ra ka rb kb = false := by
  unfold lessB; rw [if_neg (by omega)]; simp; omega
theorem less_same {ra ka kb : Int} : lessB ra ka ra kb = decide (ka < kb) := by
  unfold lessB; rw [if_pos rfl]
theorem neq_ptr_same (a : Addr) (w : World) : (binOp .neq 26 (.pointer (some a)) (.pointer (some a))).run Yba.prog w = .ok (.bool false) w := by
  have h38 : ∃ inf, Yba.prog.info? 38 = some inf := by
    have h : (Yba.prog.info? 38).isSome = true := by kernel_rfl
    exact Option.isSome_iff_exists.1 h
  obtain ⟨inf, hinf⟩ := h38
  have h : ∀ d : Nat, (Op.equalIn (d + 1) 26 (.pointer (some a)) (.pointer (some a))).run Yba.prog w = .ok true w := fun d => by
    simp [Op.equalIn, run_underlying Yba.underlying26, sizeOf, typeInfo, hinf, run_sameAddr_same]
  simp only [binOp]
  simp [Op.equal, Op.maxDepth, h 9999]
theorem neq_nil35 (w : World) : (binOp .neq 35 .nilIface .nilIface).run Yba.prog w = .ok (.bool false) w := by kernel_rfl
theorem cat_same (a : Option Addr) (len cap : Nat) (zs : List Int) (k : Nat) (w : World) (h : IsRow .u64 w a len cap zs) :
    Calls Yba.prog 4 #[.slice a len cap, .int .i64 k] w fun e w' => e = .returned (.int .u64 (rowAt zs len k)) ∧ w' = w :=
  (cat_any a len cap zs k w h).mono fun _ _ h => ⟨h.1, h.2.symm⟩

end Go.Proofs.Ybulkdsce
