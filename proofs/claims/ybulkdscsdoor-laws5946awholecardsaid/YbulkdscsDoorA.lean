/-
  A map keyed by uint32 as a list of pairs: what the model's four operations do to it.
-/
import Derived.Test.YbulkdscsDoorRows
import Derived.WalkKit
import Derived.WalkSpells
import Derived.WalkLawsBesides
import Derived.MapKept
import Derived.ChangeMaps4
import Derived.Maps.OwnSet
namespace Go.Proofs.YbulkdscsDoor
open Go.RowKit

theorem Hid.mk {p : Prop} (h : p) : Hid p := h

/-- The first place at which key k stands. -/
def findP (k : Int) : List (Int × Value) → Nat → Option (Nat × Value)
  | [], _ => none
  | p :: r, i => if k = p.1 then some (i, p.2) else findP k r (i + 1)

def ent (p : Int × Value) : Value × Value := (.int .u32 p.1, p.2)

/-- The map in block b holds the pairs m, in the order of its entries. -/
def MapIs (w : World) (b : Nat) (m : List (Int × Value)) : Prop :=
  ∃ es clock, w.heap[b]? = some (.map es clock) ∧ es.toList.map (fun e => (e.key, e.val)) = m.map ent

theorem MapIs.below {w w' : World} {b : Nat} {m : List (Int × Value)} (h : MapIs w b m) (hb : Below w.heap.size w w') : MapIs w' b m := by
  obtain ⟨es, c, h1, h2⟩ := h
  exact ⟨es, c, by rw [hb.block b (Array.getElem?_eq_some_iff.1 h1).1]; exact h1, h2⟩

theorem findNow_is (k : Int) : ∀ (es : List MapEntry) (m : List (Int × Value)) (i : Nat), es.map (fun e => (e.key, e.val)) = m.map ent → Instr.findNow (.int .u32) (.int .u32 k) es i = some (findP k m i)
  | [], m, i, h => by
    cases m with
    | nil => rfl
    | cons p r => simp at h
  | e :: es, m, i, h => by
    cases m with
    | nil => simp at h
    | cons p r =>
      simp only [List.map_cons, List.cons.injEq, ent, Prod.mk.injEq] at h
      obtain ⟨⟨h1, h2⟩, h3⟩ := h
      have ih := findNow_is k es r (i + 1) h3
      simp only [Instr.findNow, h1, Instr.sameNow, if_true, findP]
      by_cases hk : k = p.1
      · subst hk; simp [h2]
      · have : (k == p.1) = false := by simpa using hk
        simp [this, hk, ih]

theorem run_findKey_is {w : World} (k : Int) {es : List MapEntry} {m : List (Int × Value)} (h : es.map (fun e => (e.key, e.val)) = m.map ent) :
    (Instr.findKey 22 (.int .u32 k) es).run Ybad.prog w = .ok (findP k m 0) w := by
  simp [Instr.findKey, run_underlying Ybad.underlying22, findNow_is k es m 0 h]

theorem run_checkKey22 (w : World) (b : Bool) (k : Int) : (Instr.checkKey b 10000 22 (.int .u32 k)).run Ybad.prog w = .ok () w :=
  MapKept.run_checkKey (n := 9999) (k := .int .u32 k) Ybad.underlying22 (show IntKind.u32 = IntKind.u32 from rfl) b

theorem run_look {w : World} {b : Nat} {m : List (Int × Value)} (h : MapIs w b m) (k : Int) :
    (Instr.lookup 54 (.map (some b)) (.int .u32 k) false).run Ybad.prog w = .ok (((findP k m 0).map (·.2)).getD (.pointer none)) w := by
  obtain ⟨es, c, h1, h2⟩ := h
  simp only [Instr.lookup, Sem.run_bind, run_underlying Ybad.underlying54, Result.andThen_ok, MapKept.run_getObj_map h1, run_checkKey22]
  cases hf : findP k m 0 with
  | none => simp [run_findKey_is k h2, hf]
  | some q => simp [run_findKey_is k h2, hf]

theorem run_look_ok {w : World} {b : Nat} {m : List (Int × Value)} (h : MapIs w b m) (k : Int) :
    (Instr.lookup 54 (.map (some b)) (.int .u32 k) true).run Ybad.prog w = .ok (.tuple #[((findP k m 0).map (·.2)).getD (.pointer none), .bool (findP k m 0).isSome]) w := by
  obtain ⟨es, c, h1, h2⟩ := h
  simp only [Instr.lookup, Sem.run_bind, run_underlying Ybad.underlying54, Result.andThen_ok, MapKept.run_getObj_map h1, run_checkKey22]
  cases hf : findP k m 0 with
  | none => simp [run_findKey_is k h2, hf]
  | some q => simp [run_findKey_is k h2, hf]

theorem run_len_map {w : World} {b : Nat} {m : List (Int × Value)} (h : MapIs w b m) (ty : TypeId) : (Builtin.len_ #[54] ty #[.map (some b)]).run Ybad.prog w = .ok (.int .i64 m.length) w := by
  obtain ⟨es, c, h1, h2⟩ := h
  have hl : es.size = m.length := by have := congrArg List.length h2; simpa using this
  simp [Builtin.len_, run_underlying Ybad.underlying54, MapKept.run_getObj_map h1, goInt, hl]

/-- 'm[k] = v', 'delete(m, k)' on the list of pairs. -/
def putP (k : Int) (v : Value) (m : List (Int × Value)) : List (Int × Value) :=
  match findP k m 0 with
  | some (i, _) => m.modify i fun p => (p.1, v)
  | none => m ++ [(k, v)]
def delP (k : Int) (m : List (Int × Value)) : List (Int × Value) :=
  match findP k m 0 with
  | some (i, _) => m.eraseIdx i
  | none => m

theorem findP_some {k : Int} : ∀ {m : List (Int × Value)} {i0 i : Nat} {v : Value}, findP k m i0 = some (i, v) → i0 ≤ i ∧ m[i - i0]? = some (k, v)
  | [], _, _, _, h => by simp [findP] at h
  | p :: r, i0, i, v, h => by
    unfold findP at h
    by_cases hk : k = p.1
    · rw [if_pos hk] at h
      simp only [Option.some.injEq, Prod.mk.injEq] at h
      obtain ⟨rfl, rfl⟩ := h
      subst hk
      simp
    · rw [if_neg hk] at h
      obtain ⟨h1, h2⟩ := findP_some h
      refine ⟨by omega, ?_⟩
      rw [show i - i0 = (i - (i0 + 1)) + 1 by omega]
      simpa using h2

theorem block_set (w : World) (b : Nat) (o : Obj) (hb : b < w.heap.size) : (ChangeMaps.setBlock w b o).heap[b]? = some o := by
  simp [ChangeMaps.setBlock, hb]

theorem run_put {w : World} {b : Nat} {m : List (Int × Value)} (h : MapIs w b m) (k : Int) (v : Value) :
    ∃ o, (Instr.mapUpdate 54 (.map (some b)) (.int .u32 k) v).run Ybad.prog w = .ok () (ChangeMaps.setBlock w b o) ∧ MapIs (ChangeMaps.setBlock w b o) b (putP k v m) := by
  obtain ⟨es, c, h1, h2⟩ := h
  have hlt := (Array.getElem?_eq_some_iff.1 h1).1
  cases hf : findP k m 0 with
  | none =>
    refine ⟨.map (es.push ⟨.int .u32 k, v, c⟩) (c + 1), ?_, _, _, block_set w b _ hlt, ?_⟩
    · simp [Instr.mapUpdate, run_underlying Ybad.underlying54, MapKept.run_getObj_map h1, run_checkKey22, run_findKey_is k h2, hf, MapKept.run_setObj_map _ h1, ChangeMaps.setBlock]
    · simp [putP, hf, h2, ent]
  | some q =>
    obtain ⟨i, u⟩ := q
    obtain ⟨_, hi⟩ := findP_some hf
    rw [Nat.sub_zero] at hi
    have hes : (es.toList.map (fun e => (e.key, e.val)))[i]? = some (.int .u32 k, u) := by rw [h2, List.getElem?_map, hi]; rfl
    rw [List.getElem?_map, Option.map_eq_some_iff] at hes
    obtain ⟨e0, he0, he1⟩ := hes
    have hk0 : e0.key = .int .u32 k := (Prod.mk.inj he1).1
    have hei : es[i]? = some e0 := by simpa using he0
    have hst : (Instr.keyThatStays (.int .u32 k) (.int .u32 k)).run Ybad.prog w = .ok (.int .u32 k) w := MapKept.run_keyThatStays (d := .int .u32) (show IntKind.u32 = IntKind.u32 from rfl)
    refine ⟨.map (es.modify i fun e => { e with key := .int .u32 k, val := v }) c, ?_, _, _, block_set w b _ hlt, ?_⟩
    · simp [Instr.mapUpdate, run_underlying Ybad.underlying54, MapKept.run_getObj_map h1, run_checkKey22, run_findKey_is k h2, hf, hei, hk0, hst, MapKept.run_setObj_map _ h1, ChangeMaps.setBlock]
    · simp only [putP, hf]
      apply List.ext_getElem?
      intro j
      have h2j := congrArg (fun l => l[j]?) h2
      simp only [List.getElem?_map] at h2j
      simp only [List.getElem?_map, List.getElem?_modify, Array.getElem?_toList, Array.getElem?_modify]
      by_cases hij : i = j
      · subst hij
        simp [hei, hi, ent]
      · simp only [hij, if_false]
        simpa using h2j

theorem run_del {w : World} {b : Nat} {m : List (Int × Value)} (h : MapIs w b m) (k : Int) (ty : TypeId) :
    ∃ o, (Builtin.delete_ #[54, 22] ty #[.map (some b), .int .u32 k]).run Ybad.prog w = .ok (.tuple #[]) (ChangeMaps.setBlock w b o) ∧ MapIs (ChangeMaps.setBlock w b o) b (delP k m) := by
  obtain ⟨es, c, h1, h2⟩ := h
  have hlt := (Array.getElem?_eq_some_iff.1 h1).1
  cases hf : findP k m 0 with
  | none =>
    refine ⟨.map es c, ?_, _, _, block_set w b _ hlt, ?_⟩
    · simp [Builtin.delete_, run_underlying Ybad.underlying54, MapKept.run_getObj_map h1, run_checkKey22, run_findKey_is k h2, hf, MapKept.run_setObj_map _ h1, ChangeMaps.setBlock]
    · simp [delP, hf, h2]
  | some q =>
    obtain ⟨i, u⟩ := q
    refine ⟨.map (es.eraseIdxIfInBounds i) c, ?_, _, _, block_set w b _ hlt, ?_⟩
    · simp [Builtin.delete_, run_underlying Ybad.underlying54, MapKept.run_getObj_map h1, run_checkKey22, run_findKey_is k h2, hf, MapKept.run_setObj_map _ h1, ChangeMaps.setBlock]
    · simp only [delP, hf]
      obtain ⟨_, hi⟩ := findP_some hf
      rw [Nat.sub_zero] at hi
      have hil : i < es.size := by
        have := congrArg List.length h2
        have h3 := (List.getElem?_eq_some_iff.1 hi).1
        simp at this; omega
      rw [Array.eraseIdxIfInBounds, dif_pos hil, Array.toList_eraseIdx, ChangeMaps.map_eraseIdx, h2, ChangeMaps.map_eraseIdx]

end Go.Proofs.YbulkdscsDoor
