/-
  Contracts: slices.Clone (11), slices.Equal (18) at []string.
-/
import Derived.Test.YbulkdsbqA
import Derived.Deep.QuietTactic
import Derived.BigQuiet
namespace Go.Proofs.Ybulkdsbq
open Go.RowKit

/-- The slice value v reads, in world w, as the strings ss; its block is lo or a later one. -/
def SelF (w : World) (lo : Nat) (v : Value) (ss : List ByteArray) : Prop :=
  (v = .slice none 0 0 ∧ ss = []) ∨
  ∃ x c, v = .slice (some x) ss.length c ∧ lo ≤ x.block ∧ ∀ i, i < ss.length → w.cell? (x.add i) = some (.string (ss.getD i .empty))

theorem SelF.below {w w' : World} {lo : Nat} {v : Value} {ss : List ByteArray} (h : SelF w lo v ss) (hb : Below w.heap.size w w') : SelF w' lo v ss := by
  rcases h with h | ⟨x, c, h1, h2, h3⟩
  · exact .inl h
  · refine .inr ⟨x, c, h1, h2, fun i hi => ?_⟩
    have := h3 i hi
    rw [hb.cell (World.block_lt_of_cell? w _ this)]
    exact this

theorem selF_of_owns {w : World} {B : Nat} {v : Value} {ss : List ByteArray} (h : w.ownsRow B 9 1 v ss.length (ss.map Value.string)) : SelF w B v ss := by
  obtain ⟨h1, h2⟩ := id h
  rcases h2 with ⟨rfl, h2⟩ | ⟨g, cap, cur, rfl, hb, _⟩
  · exact .inl ⟨rfl, List.length_eq_zero_iff.1 h2⟩
  · refine .inr ⟨_, cap, rfl, hb, fun i hi => ?_⟩
    have := h.cellAt i (by omega)
    rw [Go.WideShapes.add_plain, Nat.zero_add, this]
    simp [List.getD, hi]

theorem Yba.info9 : (Yba.prog.info? 9).map (fun i => (i.zero, i.size, i.bytes)) = some (some (.string .empty), 1, 16) := by kernel_rfl

set_option maxHeartbeats 400000 in
theorem clone_nil (w : World) : Calls Yba.prog 11 #[.slice none 0 0] w fun e w' => e = .returned (.slice none 0 0) ∧ w' = w := by
  have hn := fun (w : World) (a : Option Addr) (l c : Nat) => Lib.run_eql_slice_nil (P := Yba.prog) w 24 9 a l c 0 0 Yba.underlying24
  go_enter Yba.func11, Yba.ntmps11
  go_wp2
  go_ret
  exact ⟨rfl, rfl⟩

set_option maxHeartbeats 400000 in
theorem clone_some (x : Addr) (c : Nat) (ss : List ByteArray) (w : World) (hs : ss.length * 16 ≤ 140737488351232)
    (hc : ∀ i, i < ss.length → w.cell? (x.add i) = some (.string (ss.getD i .empty))) :
    Calls Yba.prog 11 #[.slice (some x) ss.length c] w fun e w' => ∃ v, e = .returned v ∧ (v = .slice none 0 0 ↔ False) ∧ SelF w' w.heap.size v ss ∧ Below w.heap.size w w' := by
  obtain ⟨i0, hi, hz0, hz1, hz2⟩ := info_parts Yba.info9
  have hn := fun (w : World) (a : Option Addr) (l c : Nat) => Lib.run_eql_slice_nil (P := Yba.prog) w 24 9 a l c 0 0 Yba.underlying24
  have HC : Hid (∀ i, i < ss.length → w.cell? (x.add i) = some (.string (ss.getD i .empty))) := hc
  clear hc
  go_enter Yba.func11, Yba.ntmps11
  go_wp2_with (at_builtin; refine wpList_append_own _ rfl _ _ 24 rfl w.heap.size 9 i0 (.string .empty) 1 16 Yba.underlying24 hi hz0 hz1 hz2 rfl (by decide) _ 0 [] rfl ?c0 x ss.length c (ss.map Value.string) rfl ?c1 ?c2 ?c3 ?c4 ?c5 ?c6 ?_)
  case c0 => exact ⟨rfl, .inr ⟨w.heap.size, 0, #[], rfl, Nat.le_refl _, heap_alloc_new w _, Nat.le_refl _, by decide, rfl, rfl⟩⟩
  case c1 => simp
  case c2 =>
    intro j u hj
    simp only [List.getElem?_map, Option.map_eq_some_iff] at hj
    obtain ⟨b, hb, rfl⟩ := hj
    have hlt : j < ss.length := (List.getElem?_eq_some_iff.1 hb).1
    have := HC.out j hlt
    rw [World.cell?_alloc_lt _ _ _ (World.block_lt_of_cell? w _ this), this]
    simp [List.getD, hb]
  case c3 => intro u hu; simp only [List.mem_map] at hu; obtain ⟨b, _, rfl⟩ := hu; rfl
  case c4 => unfold maxLen; omega
  case c5 => omega
  case c6 => simp
  intro v' w' ho hg hnil
  go_wp2
  go_ret
  refine ⟨v', rfl, by simpa using hnil, selF_of_owns ho, ?_⟩
  exact ((Below.refl _ _).alloc (Nat.le_refl _) _).grown hg (by simp) (by intro k hk; simp [Value.ownBlock] at hk; omega)

theorem clone_any (v : Value) (ss : List ByteArray) (w : World) (lo : Nat) (hs : ss.length * 16 ≤ 140737488351232) (h : SelF w lo v ss) :
    Calls Yba.prog 11 #[v] w fun e w' => ∃ a l c, e = .returned (.slice a l c) ∧ (Value.slice a l c = .slice none 0 0 ↔ v = .slice none 0 0) ∧ SelF w' w.heap.size (.slice a l c) ss ∧ Below w.heap.size w w' := by
  rcases h with ⟨rfl, rfl⟩ | ⟨x, c, rfl, _, h⟩
  · refine (clone_nil w).mono ?_
    rintro e w' ⟨rfl, rfl⟩
    exact ⟨_, _, _, rfl, Iff.rfl, .inl ⟨rfl, rfl⟩, Below.refl _ _⟩
  · refine (clone_some x c ss w hs h).mono ?_
    rintro e w' ⟨v, rfl, h1, h2, h3⟩
    obtain ⟨a, l, d, rfl⟩ : ∃ a l d, v = .slice a l d := by
      rcases h2 with ⟨rfl, _⟩ | ⟨y, d, rfl, _⟩
      · exact ⟨_, _, _, rfl⟩
      · exact ⟨_, _, _, rfl⟩
    exact ⟨a, l, d, rfl, by simpa using h1, h2, h3⟩

theorem strs_at {w : World} {a : Addr} {ss : List ByteArray} (h : ∀ i, i < ss.length → w.cell? (a.add i) = some (.string (ss.getD i .empty))) (hp : 0 < ss.length) :
    ∃ b off, a = ⟨b, off, none⟩ ∧ ∀ j, j < ss.length → w.cell? ⟨b, off + j, none⟩ = some (.string (ss.getD j .empty)) := by
  obtain ⟨b, off, spot⟩ := a
  have hspot : spot = none := by simpa [Addr.add] using World.cell?_spot (h 0 hp)
  subst hspot
  exact ⟨b, off, rfl, fun j hj => by rw [← Go.WideShapes.add_plain]; exact h j hj⟩

set_option maxHeartbeats 400000 in
theorem equal_empty (x y : Option Addr) (c d : Nat) (w : World) :
    Calls Yba.prog 18 #[.slice x 0 c, .slice y 0 d] w fun e w' => e = .returned (.bool true) ∧ w' = w := by
  go_enter Yba.func18, Yba.ntmps18
  go_wp2
  refine wp_loop_rounds 1 ?_
  rw [rounds_succ]
  go_wp2
  go_ret
  exact ⟨rfl, rfl⟩

set_option maxHeartbeats 400000 in
theorem equal_some (b o b' o' : Nat) (c d : Nat) (ss : List ByteArray) (w : World) (hs : ss.length * 16 ≤ 140737488351232)
    (hx : ∀ j, j < ss.length → w.cell? ⟨b, o + j, none⟩ = some (.string (ss.getD j .empty))) (hy : ∀ j, j < ss.length → w.cell? ⟨b', o' + j, none⟩ = some (.string (ss.getD j .empty))) :
    Calls Yba.prog 18 #[.slice (some ⟨b, o, none⟩) ss.length c, .slice (some ⟨b', o', none⟩) ss.length d] w fun e w' => e = .returned (.bool true) ∧ ∃ n, w' = w.drewN n := by
  have HX : Hid (∀ j, j < ss.length → w.cell? ⟨b, o + j, none⟩ = some (.string (ss.getD j .empty))) := hx
  have HY : Hid (∀ j, j < ss.length → w.cell? ⟨b', o' + j, none⟩ = some (.string (ss.getD j .empty))) := hy
  clear hx hy
  go_enter Yba.func18, Yba.ntmps18
  go_wp2
  go_loopw [13] (fun i wr => ∃ k n : Nat, k ≤ ss.length ∧ i = .int .i64 k ∧ wr = w.drewN n) (fun i _ => ss.length - (intOf i).toNat)
  case atStart => exact ⟨0, 0, Nat.zero_le _, rfl, rfl⟩
  case round =>
    obtain ⟨k, n, hk, rfl, rfl⟩ := hrel
    by_cases hlt : k < ss.length
    · have c1 := HX.out k hlt
      have c2 := HY.out k hlt
      go_wp2
      go_quiet (fail)
      go_wp2
      go_roundw
      case rel => exact ⟨k + 1, _, by omega, by go_num, rfl⟩
      case measure => simp [intOf]; omega
    · go_wp2
      go_ret
      exact ⟨rfl, _, rfl⟩

theorem equal_any (v v' : Value) (ss : List ByteArray) (w : World) (lo lo' : Nat) (hs : ss.length * 16 ≤ 140737488351232) (h : SelF w lo v ss) (h' : SelF w lo' v' ss) :
    Calls Yba.prog 18 #[v, v'] w fun e w' => e = .returned (.bool true) ∧ ∃ n, w' = w.drewN n := by
  have key : ∀ x y c d, ss.length = 0 → Calls Yba.prog 18 #[.slice x ss.length c, .slice y ss.length d] w fun e w' => e = .returned (.bool true) ∧ ∃ n, w' = w.drewN n := by
    intro x y c d h0
    rw [h0]
    exact (equal_empty x y c d w).mono fun e w' ⟨h1, h2⟩ => ⟨h1, 0, h2⟩
  rcases h with ⟨rfl, rfl⟩ | ⟨x, c, rfl, _, h⟩
  · rcases h' with ⟨rfl, _⟩ | ⟨y, d, rfl, _, h'⟩
    · exact key none none 0 0 rfl
    · exact key none (some y) 0 d rfl
  · rcases h' with ⟨rfl, rfl⟩ | ⟨y, d, rfl, _, h'⟩
    · exact key (some x) none c 0 rfl
    · by_cases h0 : 0 < ss.length
      · obtain ⟨b, o, rfl, hx⟩ := strs_at h h0
        obtain ⟨b', o', rfl, hy⟩ := strs_at h' h0
        exact equal_some b o b' o' c d ss w hs hx hy
      · exact key (some x) (some y) c d (by omega)

end Go.Proofs.Ybulkdsbq
