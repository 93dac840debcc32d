/-
  What the law's three loops keep: plain lemmas on lists and worlds.
-/
import Derived.Test.YbulkdsbqE
import Derived.Test.YbulkdsbqD
namespace Go.Proofs.Ybulkdsbq
open Go.RowKit

/-- One argument: its plain data, its slice value, the strings that it reads as. -/
structure Ag where
  e : El
  s : Sl
  ss : List ByteArray

structure Good (w : World) (p : Ag) : Prop where
  seen0 : -9223372036854775808 ≤ p.e.seen
  seen1 : p.e.seen ≤ 9223372036854775807
  dead0 : -9223372036854775808 ≤ p.e.dead
  dead1 : p.e.dead ≤ 9223372036854775807
  st0 : 0 ≤ p.e.st
  st1 : p.e.st ≤ 255
  len : p.ss.length * 16 ≤ 140737488351232
  sel : SelF w 0 (.slice p.s.a p.s.l p.s.c) p.ss

theorem isNone_of {w w' : World} {lo lo' : Nat} {a a' : Option Addr} {l c l' c' : Nat} {ss ss' : List ByteArray} (h : SelF w lo (.slice a l c) ss) (h' : SelF w' lo' (.slice a' l' c') ss')
    (hn : Value.slice a' l' c' = .slice none 0 0 ↔ Value.slice a l c = .slice none 0 0) : a'.isNone = a.isNone := by
  rcases h with ⟨e, _⟩ | ⟨x, d, e, _⟩ <;> rcases h' with ⟨e', _⟩ | ⟨x', d', e', _⟩ <;> simp_all

/-- The windows made so far: of each argument its window, whose slice S[j] reads as the argument's. -/
structure Made (w : World) (G : Nat) (A : List Ag) (S : List Sl) (wr : World) : Prop where
  below : Below w.heap.size w wr
  there : wr.there G 0 (A.length * 21)
  size : G < wr.heap.size
  row : ∀ (j : Nat) (p : Ag) (s : Sl), A[j]? = some p → S[j]? = some s → wr.rangeAt G (j * 21) (p.e.win s)
  sel : ∀ (j : Nat) (p : Ag) (s : Sl), A[j]? = some p → S[j]? = some s → SelF wr (G + 1) (.slice s.a s.l s.c) p.ss ∧ s.a.isNone = p.s.a.isNone

theorem there_below {w w' : World} {b o n : Nat} (h : w.there b o n) (hb : Below w.heap.size w w') (hs : b < w.heap.size) : w'.there b o n := fun j hj => by
  rw [hb.cell hs, hb.frozen hs]
  exact h j hj

theorem Made.later {w : World} {G : Nat} {A : List Ag} {S : List Sl} {wr w1 : World} (h : Made w G A S wr) (hb : Below wr.heap.size wr w1) : Made w G A S w1 where
  below := h.below.trans (hb.mono h.below.size)
  there := there_below h.there hb h.size
  size := Nat.lt_of_lt_of_le h.size hb.size
  row j p s h1 h2 := rangeAt_below (h.row j p s h1 h2) hb
  sel j p s h1 h2 := ⟨(h.sel j p s h1 h2).1.below hb, (h.sel j p s h1 h2).2⟩

theorem Made.start {w wr : World} {A : List Ag} {v : List Value} (ho : wr.ownsRow w.heap.size 43 21 (.slice (some ⟨w.heap.size, 0, none⟩) A.length A.length) A.length v) (hg : w.grownBy wr none) :
    Made w w.heap.size A [] wr := by
  have hlen := ho.1
  refine ⟨(Below.refl _ _).grown hg (Nat.le_refl _) (by simp), fun j hj => ⟨?_, ?_⟩, ?_, fun j p s _ h => by simp at h, fun j p s _ h => by simp at h⟩
  · rw [Nat.zero_add, ho.cellAt j hj]; simp [hlen, hj]
  · rw [Nat.zero_add, ho.frozenAt j]
  · rcases ho.2 with ⟨h, _⟩ | ⟨g, cap, cur, h, _, hh, _⟩
    · simp at h
    · simp at h
      obtain ⟨rfl, _⟩ := h
      exact (Array.getElem?_eq_some_iff.1 hh).1

/-- One round of the first loop: the window of argument k is stored. -/
theorem Made.step {w : World} {G : Nat} {A : List Ag} {S : List Sl} {wr w1 : World} (h : Made w G A S wr) {p : Ag} {s : Sl} (hk : A[S.length]? = some p) (hG : w.heap.size ≤ G) (hb : Below wr.heap.size wr w1)
    (hs : SelF w1 wr.heap.size (.slice s.a s.l s.c) p.ss) (hn : s.a.isNone = p.s.a.isNone) :
    Made w G A (S ++ [s]) (w1.setCells G (S.length * 21) (p.e.win s)) := by
  have h1 := h.later hb
  have hlt : S.length < A.length := (List.getElem?_eq_some_iff.1 hk).1
  have hw : (p.e.win s).length = 21 := rfl
  have hth : w1.there G (S.length * 21) (p.e.win s).length := fun j hj => by
    have := h1.there (S.length * 21 + j) (by omega)
    rwa [Nat.zero_add] at this
  refine ⟨below_setCells _ hG _ _ _ h1.below, fun j hj => ⟨World.isSome_setCells _ _ _ _ _ (h1.there j hj).1, by rw [World.frozen?_setCells]; exact (h1.there j hj).2⟩, by rw [size_setCells]; exact h1.size, ?_, ?_⟩
  · intro j q t hq ht
    rcases Nat.lt_or_ge j S.length with hj | hj
    · rw [List.getElem?_append_left hj] at ht
      exact World.rangeAt_setCells_apart (h1.row j q t hq ht) _ _ _ (.inr (.inl (by show j * 21 + 21 ≤ _; omega)))
    · have hj' : j = S.length := by
        have := (List.getElem?_eq_some_iff.1 ht).1
        simp at this; omega
      subst hj'
      simp at ht
      rw [hk] at hq
      cases hq
      subst ht
      exact World.rangeAt_setCells_same _ _ _ _ hth
  · intro j q t hq ht
    rcases Nat.lt_or_ge j S.length with hj | hj
    · rw [List.getElem?_append_left hj] at ht
      exact ⟨(h1.sel j q t hq ht).1.setCells _ _ _ (by omega), (h1.sel j q t hq ht).2⟩
    · have hj' : j = S.length := by
        have := (List.getElem?_eq_some_iff.1 ht).1
        simp at this; omega
      subst hj'
      simp at ht
      rw [hk] at hq
      cases hq
      subst ht
      exact ⟨(hs.lift (by have := h.size; omega)).setCells _ _ _ (by omega), hn⟩

/-- The windows as 'Carried' reads them. -/
def pairs (A : List Ag) (S : List Sl) : List (El × Sl) := (A.map (·.e)).zip S

theorem pairs_length {A : List Ag} {S : List Sl} (h : S.length = A.length) : (pairs A S).length = A.length := by simp [pairs, h]
theorem pairs_get {A : List Ag} {S : List Sl} {j : Nat} {p : Ag} {s : Sl} (h1 : A[j]? = some p) (h2 : S[j]? = some s) : (pairs A S)[j]? = some (p.e, s) := by
  simp [pairs, List.getElem?_zip_eq_some, h1, h2]

theorem Made.rows {w : World} {G : Nat} {A : List Ag} {S : List Sl} {wr : World} (h : Made w G A S wr) (hl : S.length = A.length) :
    ∀ i (hi : i < (pairs A S).length), wr.rangeAt G (i * 21) ((pairs A S)[i].1.win (pairs A S)[i].2) := by
  intro i hi
  have hA : i < A.length := by rw [← pairs_length hl]; exact hi
  have hS : i < S.length := by omega
  have h1 : A[i]? = some A[i] := List.getElem?_eq_getElem hA
  have h2 : S[i]? = some S[i] := List.getElem?_eq_getElem hS
  have := pairs_get h1 h2
  have e : (pairs A S)[i] = (A[i].e, S[i]) := by
    rw [List.getElem?_eq_getElem hi] at this
    exact Option.some.inj this
  rw [e]
  exact h.row i _ _ h1 h2

/-- Which arguments are cured, said of the arguments alone. -/
def curedA (p : Ag) : Bool := decide (p.e.st % 6 = 3)
theorem kept_nil {A : List Ag} {S : List Sl} (h : ∀ p ∈ A, curedA p = true) : kept (pairs A S) = [] := by
  unfold kept
  rw [List.filter_eq_nil_iff]
  intro q hq
  obtain ⟨x, y⟩ := q
  have := (List.of_mem_zip hq).1
  simp only [List.mem_map] at this
  obtain ⟨p, hp, rfl⟩ := this
  have := h p hp
  simpa [cured, curedA] using this

theorem kept_len_lt {es : List (El × Sl)} {i : Nat} {q : El × Sl} (hi : es[i]? = some q) (hc : cured q = false) :
    (kept (es.take i)).length < (kept es).length ∧ (kept es)[(kept (es.take i)).length]? = some q := by
  have hlt : i < es.length := (List.getElem?_eq_some_iff.1 hi).1
  have hq : es[i] = q := by rw [List.getElem?_eq_getElem hlt] at hi; exact Option.some.inj hi
  have e : es = es.take i ++ q :: es.drop (i + 1) := by
    rw [← hq, List.getElem_cons_drop, List.take_append_drop]
  have e2 : kept es = kept (es.take i) ++ q :: kept (es.drop (i + 1)) := by
    conv => lhs; rw [e]
    simp [kept, hc]
  rw [e2]
  refine ⟨by simp, ?_⟩
  simp

/-- Row number k of what Carried handed back. -/
theorem rows_range {w : World} {B g cap : Nat} {es : List (El × Sl)} (ho : w.ownsRow B 52 17 (.slice (some ⟨g, 0, none⟩) (kept es).length cap) (kept es).length (rows es)) {k : Nat} {q : El × Sl} (hk : (kept es)[k]? = some q) :
    w.rangeAt g (k * 17) (q.1.row q.2) := by
  intro j v hv
  have hj : j < 17 := (List.getElem?_eq_some_iff.1 hv).1
  have hkl : k < (kept es).length := (List.getElem?_eq_some_iff.1 hk).1
  rw [ho.cellAt (k * 17 + j) (by omega)]
  unfold rows
  have key : ∀ (ks : List (El × Sl)) (k : Nat), ks[k]? = some q → (ks.flatMap fun p => p.1.row p.2)[k * 17 + j]? = some v := by
    intro ks
    induction ks with
    | nil => intro k h; simp at h
    | cons r t ih =>
      intro k h
      rw [List.flatMap_cons]
      have hr : (r.1.row r.2).length = 17 := rfl
      cases k with
      | zero =>
        simp at h
        subst h
        rw [List.getElem?_append_left (by omega)]
        simpa using hv
      | succ k =>
        rw [List.getElem?_append_right (by omega), show (k + 1) * 17 + j - (r.1.row r.2).length = k * 17 + j by omega]
        exact ih k (by simpa using h)
  exact key _ k hk

/-- What a region with calls that only make memory keeps. -/
def Same (w0 w' : World) : Prop := (∀ b o, b < w0.heap.size → w'.cell? ⟨b, o, none⟩ = w0.cell? ⟨b, o, none⟩) ∧ Below w0.heap.size w0 w'
theorem Same.start (w0 : World) : Same w0 w0.drew := ⟨fun _ _ _ => rfl, (Below.refl _ _).drew⟩
theorem Same.call {w0 w1 w2 : World} (h : Same w0 w1) (hb : Below w1.heap.size w1 w2) : Same w0 w2 := by
  have h2 : Below w0.heap.size w0 w2 := h.2.trans (hb.mono h.2.size)
  exact ⟨fun b o hbo => h2.cell hbo, h2⟩
theorem Same.quiet {w0 w1 : World} (h : Same w0 w1) : Same w0 w1 := h

theorem cells14 {w : World} {b q : Nat} {e : El} {s : Sl} (h : w.rangeAt b q (e.cells s)) :
    w.cell? ⟨b, q, none⟩ = some (.string e.fund) ∧ w.cell? ⟨b, q + 1, none⟩ = some (.string e.id) ∧ w.cell? ⟨b, q + 2, none⟩ = some (.slice s.a s.l s.c) ∧ w.cell? ⟨b, q + 3, none⟩ = some (.string e.side) ∧
    w.cell? ⟨b, q + 4, none⟩ = some (.string e.gb) ∧ w.cell? ⟨b, q + 5, none⟩ = some (.string e.ofv) ∧ w.cell? ⟨b, q + 6, none⟩ = some (.bool e.floor) ∧ w.cell? ⟨b, q + 7, none⟩ = some (.int .i64 e.cd) ∧
    w.cell? ⟨b, q + 8, none⟩ = some (.string e.cin) ∧ w.cell? ⟨b, q + 9, none⟩ = some (.string e.group) ∧ w.cell? ⟨b, q + 10, none⟩ = some (.int .i64 e.seen) ∧ w.cell? ⟨b, q + 11, none⟩ = some (.string e.cause) ∧
    w.cell? ⟨b, q + 12, none⟩ = some (.int .i64 e.dead) ∧ w.cell? ⟨b, q + 13, none⟩ = some (.int .u8 e.st) :=
  ⟨h 0 _ rfl, h 1 _ rfl, h 2 _ rfl, h 3 _ rfl, h 4 _ rfl, h 5 _ rfl, h 6 _ rfl, h 7 _ rfl, h 8 _ rfl, h 9 _ rfl, h 10 _ rfl, h 11 _ rfl, h 12 _ rfl, h 13 _ rfl⟩
theorem cells17 {w : World} {b q : Nat} {e : El} {s : Sl} (h : w.rangeAt b q (e.row s)) :
    w.cell? ⟨b, q, none⟩ = some (.string e.fund) ∧ w.cell? ⟨b, q + 1, none⟩ = some (.string e.id) ∧ w.cell? ⟨b, q + 2, none⟩ = some (.slice s.a s.l s.c) ∧ w.cell? ⟨b, q + 3, none⟩ = some (.string e.side) ∧
    w.cell? ⟨b, q + 4, none⟩ = some (.string e.gb) ∧ w.cell? ⟨b, q + 5, none⟩ = some (.string e.ofv) ∧ w.cell? ⟨b, q + 6, none⟩ = some (.int .i64 0) ∧ w.cell? ⟨b, q + 7, none⟩ = some (.pointer none) ∧
    w.cell? ⟨b, q + 8, none⟩ = some (.int .i64 0) ∧ w.cell? ⟨b, q + 9, none⟩ = some (.bool e.floor) ∧ w.cell? ⟨b, q + 10, none⟩ = some (.int .i64 e.cd) ∧ w.cell? ⟨b, q + 11, none⟩ = some (.string e.cin) ∧
    w.cell? ⟨b, q + 12, none⟩ = some (.string e.group) ∧ w.cell? ⟨b, q + 13, none⟩ = some (.int .u64 (addW e.seen)) ∧ w.cell? ⟨b, q + 14, none⟩ = some (.int .i64 (addE e.seen)) ∧ w.cell? ⟨b, q + 15, none⟩ = some (.pointer none) ∧
    w.cell? ⟨b, q + 16, none⟩ = some (.string e.cause) :=
  ⟨h 0 _ rfl, h 1 _ rfl, h 2 _ rfl, h 3 _ rfl, h 4 _ rfl, h 5 _ rfl, h 6 _ rfl, h 7 _ rfl, h 8 _ rfl, h 9 _ rfl, h 10 _ rfl, h 11 _ rfl, h 12 _ rfl, h 13 _ rfl, h 14 _ rfl, h 15 _ rfl, h 16 _ rfl⟩
theorem cells21 {w : World} {b q : Nat} {e : El} {s : Sl} (h : w.rangeAt b q (e.win s)) :
    (w.cell? ⟨b, q, none⟩ = some (.string e.fund) ∧ w.cell? ⟨b, q + 1, none⟩ = some (.string e.id) ∧ w.cell? ⟨b, q + 2, none⟩ = some (.slice s.a s.l s.c) ∧ w.cell? ⟨b, q + 3, none⟩ = some (.string e.side) ∧
    w.cell? ⟨b, q + 4, none⟩ = some (.string e.gb) ∧ w.cell? ⟨b, q + 5, none⟩ = some (.string e.ofv) ∧ w.cell? ⟨b, q + 6, none⟩ = some (.int .i64 0) ∧ w.cell? ⟨b, q + 7, none⟩ = some (.pointer none) ∧
    w.cell? ⟨b, q + 8, none⟩ = some (.int .i64 0) ∧ w.cell? ⟨b, q + 9, none⟩ = some (.bool e.floor) ∧ w.cell? ⟨b, q + 10, none⟩ = some (.int .i64 e.cd) ∧ w.cell? ⟨b, q + 11, none⟩ = some (.string e.cin) ∧
    w.cell? ⟨b, q + 12, none⟩ = some (.string e.group) ∧ w.cell? ⟨b, q + 13, none⟩ = some (.int .u64 (addW e.seen)) ∧ w.cell? ⟨b, q + 14, none⟩ = some (.int .i64 (addE e.seen)) ∧ w.cell? ⟨b, q + 15, none⟩ = some (.pointer none) ∧
    w.cell? ⟨b, q + 16, none⟩ = some (.string e.cause)) ∧ w.cell? ⟨b, q + 17, none⟩ = some (.int .u64 (addW e.dead)) ∧ w.cell? ⟨b, q + 18, none⟩ = some (.int .i64 (addE e.dead)) ∧ w.cell? ⟨b, q + 19, none⟩ = some (.pointer none) ∧
    w.cell? ⟨b, q + 20, none⟩ = some (.string (statusOf e.st)) :=
  ⟨⟨h 0 _ rfl, h 1 _ rfl, h 2 _ rfl, h 3 _ rfl, h 4 _ rfl, h 5 _ rfl, h 6 _ rfl, h 7 _ rfl, h 8 _ rfl, h 9 _ rfl, h 10 _ rfl, h 11 _ rfl, h 12 _ rfl, h 13 _ rfl, h 14 _ rfl, h 15 _ rfl, h 16 _ rfl⟩, h 17 _ rfl, h 18 _ rfl, h 19 _ rfl, h 20 _ rfl⟩

end Go.Proofs.Ybulkdsbq
