/-
  The plain part: the lists that the law builds, and what the map's operations do to them. No Go in sight.
-/
import Derived.Test.YbulkdscsDoorF
namespace Go.Proofs.YbulkdscsDoor

def addK (ks : List Int) (x : Int) : List Int := if x ∈ ks then ks else ks ++ [x]
def dedup (L : List Int) : List Int := L.foldl addK []
def addD (L ds : List Int) (x : Int) : List Int := if x ∈ L ∨ x ∈ ds then ds else ds ++ [x]
def rest (L E : List Int) : List Int := E.foldl (addD L) []
def pairs (K D : List Int) (l d : Value) : List (Int × Value) := K.map (·, l) ++ D.map (·, d)

theorem foldl_take_succ {α : Type} (f : α → Int → α) (a : α) (xs : List Int) (k : Nat) (hk : k < xs.length) : (xs.take (k + 1)).foldl f a = f ((xs.take k).foldl f a) (xs.getD k 0) := by
  rw [List.take_add_one, List.foldl_append]
  simp [List.getD, hk]

theorem addK_nodup {ks : List Int} (h : ks.Nodup) (x : Int) : (addK ks x).Nodup := by
  unfold addK
  split
  · exact h
  · rename_i hx
    rw [List.nodup_append]
    exact ⟨h, by simp, fun a ha b hb => by simp at hb; subst hb; exact fun e => hx (e ▸ ha)⟩

theorem foldK_nodup : ∀ (L ks : List Int), ks.Nodup → (L.foldl addK ks).Nodup
  | [], _, h => h
  | x :: L, _, h => foldK_nodup L _ (addK_nodup h x)
theorem dedup_nodup (L : List Int) : (dedup L).Nodup := foldK_nodup L [] (by simp)

theorem mem_addK (ks : List Int) (x y : Int) : y ∈ addK ks x ↔ y ∈ ks ∨ y = x := by
  unfold addK
  split
  · rename_i hx
    exact ⟨.inl, fun h => h.elim id fun e => e ▸ hx⟩
  · simp
theorem mem_foldK : ∀ (L ks : List Int) (y : Int), y ∈ L.foldl addK ks ↔ y ∈ ks ∨ y ∈ L
  | [], _, _ => by simp
  | x :: L, ks, y => by
    simp only [List.foldl_cons, mem_foldK L, mem_addK, List.mem_cons]
    exact or_assoc
theorem mem_dedup (L : List Int) (y : Int) : y ∈ dedup L ↔ y ∈ L := by simp [dedup, mem_foldK]

theorem foldD_inv (L : List Int) : ∀ (E ds : List Int), ds.Nodup → (∀ y ∈ ds, y ∉ L) → (E.foldl (addD L) ds).Nodup ∧ ∀ y ∈ E.foldl (addD L) ds, y ∉ L
  | [], ds, h, h2 => ⟨h, h2⟩
  | x :: E, ds, h, h2 => by
    refine foldD_inv L E (addD L ds x) ?_ ?_
    · unfold addD
      split
      · exact h
      · rename_i hx
        rw [List.nodup_append]
        exact ⟨h, by simp, fun a ha b hb => by simp at hb; subst hb; exact fun e => hx (.inr (e ▸ ha))⟩
    · unfold addD
      split
      · exact h2
      · rename_i hx
        intro y hy
        simp only [List.mem_append, List.mem_singleton] at hy
        rcases hy with hy | rfl
        · exact h2 y hy
        · exact fun h => hx (.inl h)
theorem rest_nodup (L E : List Int) : (rest L E).Nodup := (foldD_inv L E [] (by simp) (by simp)).1
theorem rest_apart (L E : List Int) : ∀ y ∈ rest L E, y ∉ L := (foldD_inv L E [] (by simp) (by simp)).2

theorem addK_len (ks : List Int) (x : Int) : (addK ks x).length ≤ ks.length + 1 := by unfold addK; split <;> simp
theorem addD_len (L ds : List Int) (x : Int) : (addD L ds x).length ≤ ds.length + 1 := by unfold addD; split <;> simp

/-- Where a key is found. -/
theorem findP_none {k : Int} : ∀ {m : List (Int × Value)} {i : Nat}, k ∉ m.map Prod.fst → findP k m i = none
  | [], _, _ => rfl
  | p :: r, i, h => by
    simp only [List.map_cons, List.mem_cons, not_or] at h
    unfold findP
    rw [if_neg h.1]
    exact findP_none h.2
theorem findP_isSome {k : Int} : ∀ {m : List (Int × Value)} {i : Nat}, k ∈ m.map Prod.fst → ∃ j v, findP k m i = some (j, v)
  | [], _, h => by simp at h
  | p :: r, i, h => by
    unfold findP
    by_cases hk : k = p.1
    · rw [if_pos hk]; exact ⟨_, _, rfl⟩
    · rw [if_neg hk]
      simp only [List.map_cons, List.mem_cons, hk, false_or] at h
      exact findP_isSome h

theorem delP_aux (x : Int) : ∀ (m : List (Int × Value)) (i : Nat), (m.map Prod.fst).Nodup → (match findP x m i with | some (j, _) => m.eraseIdx (j - i) | none => m) = m.filter (fun p => decide (p.1 ≠ x))
  | [], i, _ => rfl
  | p :: r, i, h => by
    simp only [List.map_cons, List.nodup_cons] at h
    unfold findP
    by_cases hk : x = p.1
    · subst hk
      rw [if_pos rfl]
      simp only [Nat.sub_self, List.eraseIdx_cons_zero]
      rw [List.filter_cons_of_neg (by simp)]
      refine (List.filter_eq_self.2 fun q hq => ?_).symm
      simp only [decide_eq_true_eq]
      exact fun e => h.1 (e ▸ List.mem_map_of_mem hq)
    · rw [if_neg hk, List.filter_cons_of_pos (by simpa using fun e => hk e.symm), ← delP_aux x r (i + 1) h.2]
      cases hf : findP x r (i + 1) with
      | none => rfl
      | some q =>
        obtain ⟨j, v⟩ := q
        have := (findP_some hf).1
        simp only
        rw [show j - i = (j - (i + 1)) + 1 by omega, List.eraseIdx_cons_succ]

theorem delP_eq (x : Int) (m : List (Int × Value)) (h : (m.map Prod.fst).Nodup) : delP x m = m.filter (fun p => decide (p.1 ≠ x)) := by
  have := delP_aux x m 0 h
  unfold delP
  rw [← this]
  cases findP x m 0 with
  | none => rfl
  | some q => rfl

theorem nodup_filter {m : List (Int × Value)} (f : Int × Value → Bool) (h : (m.map Prod.fst).Nodup) : ((m.filter f).map Prod.fst).Nodup :=
  h.sublist (List.filter_sublist.map _)

theorem del_all : ∀ (xs : List Int) (m : List (Int × Value)), (m.map Prod.fst).Nodup → xs.foldl (fun m x => delP x m) m = m.filter (fun p => decide (p.1 ∉ xs))
  | [], m, _ => (List.filter_eq_self.2 fun _ _ => by simp).symm
  | x :: xs, m, h => by
    simp only [List.foldl_cons]
    rw [delP_eq x m h, del_all xs _ (nodup_filter _ h), List.filter_filter]
    refine List.filter_congr fun p _ => ?_
    simp only [List.mem_cons, not_or, Bool.decide_and, ne_eq]
    rw [Bool.and_comm]

theorem pairs_keys (K D : List Int) (l d : Value) : (pairs K D l d).map Prod.fst = K ++ D := by simp [pairs, Function.comp_def]

theorem del_l {K D L : List Int} {l d : Value} (hn : (K ++ D).Nodup) (h1 : ∀ y ∈ K, y ∈ L) (h2 : ∀ y ∈ D, y ∉ L) : L.foldl (fun m x => delP x m) (pairs K D l d) = D.map (·, d) := by
  rw [del_all _ _ (by rw [pairs_keys]; exact hn), pairs, List.filter_append]
  rw [List.filter_eq_nil_iff.2, List.filter_eq_self.2]
  · rfl
  · intro p hp
    obtain ⟨y, hy, rfl⟩ := List.mem_map.1 hp
    simpa using h2 y hy
  · intro p hp
    obtain ⟨y, hy, rfl⟩ := List.mem_map.1 hp
    simpa using h1 y hy
theorem del_d {K D : List Int} {l d : Value} (hn : (K ++ D).Nodup) : D.foldl (fun m x => delP x m) (pairs K D l d) = K.map (·, l) := by
  rw [del_all _ _ (by rw [pairs_keys]; exact hn), pairs, List.filter_append]
  rw [List.filter_eq_self.2, List.filter_eq_nil_iff.2]
  · simp
  · intro p hp
    obtain ⟨y, hy, rfl⟩ := List.mem_map.1 hp
    simpa using hy
  · intro p hp
    obtain ⟨y, hy, rfl⟩ := List.mem_map.1 hp
    simp only [decide_eq_true_eq]
    exact fun h => (List.nodup_append.1 hn).2.2 y hy y h rfl

theorem put_l {K : List Int} (x : Int) (l : Value) : putP x l (K.map (·, l)) = (addK K x).map (·, l) := by
  have hk : (K.map (·, l)).map Prod.fst = K := by simp [Function.comp_def]
  unfold addK putP
  by_cases hx : x ∈ K
  · obtain ⟨j, v, hj⟩ := findP_isSome (k := x) (m := K.map (·, l)) (i := 0) (by rw [hk]; exact hx)
    rw [hj, if_pos hx]
    obtain ⟨_, h2⟩ := findP_some hj
    apply List.ext_getElem?
    intro i
    simp only [List.getElem?_modify, List.getElem?_map]
    cases hi : K[i]? with
    | none => simp
    | some y => by_cases hji : j = i <;> simp [hji]
  · rw [findP_none (by rw [hk]; exact hx), if_neg hx]
    simp
theorem put_d {K D : List Int} (x : Int) (l d : Value) (hx : x ∉ K) (hd : x ∉ D) : putP x d (pairs K D l d) = pairs K (D ++ [x]) l d := by
  unfold putP
  rw [findP_none (by rw [pairs_keys]; simp [hx, hd])]
  simp [pairs]

end Go.Proofs.YbulkdscsDoor
