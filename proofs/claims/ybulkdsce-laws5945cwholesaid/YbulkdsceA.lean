/-
  Contracts: zzs5945cat (4), (turns).Less (5).
-/
import Derived.Test.YbulkdsceRows
import Derived.WalkKit
import Derived.WalkSpells
import Derived.WalkLawsBesides
import Derived.Deep.QuietTactic
import Derived.BigQuiet
import Derived.Deep.MidRow
import Derived.OpenShut
namespace Go.Proofs.Ybulkdsce
open Go.RowKit

theorem Hid.mk {p : Prop} (h : p) : Hid p := h

/-- A slice of integers that came in: nil; or a row of 'cap' cells, the numbers 'zs', each fitting its kind. -/
def IsRow (k : IntKind) (w : World) (a : Option Addr) (len cap : Nat) (zs : List Int) : Prop :=
  (a = none ∧ len = 0 ∧ cap = 0 ∧ zs = []) ∨
  ∃ x, a = some x ∧ len ≤ cap ∧ cap ≤ maxLen ∧ zs.length = cap ∧ (∀ i, i < zs.length → w.cell? (x.add i) = some (.int k (zs.getD i 0))) ∧ ∀ n ∈ zs, (Lit.int k n).wf = true

theorem IsRow.below {k : IntKind} {w w' : World} {a : Option Addr} {len cap : Nat} {zs : List Int} (h : IsRow k w a len cap zs) (hb : Below w.heap.size w w') : IsRow k w' a len cap zs := by
  rcases h with h | ⟨x, h1, h2, h3, h4, h5, h6⟩
  · exact .inl h
  · refine .inr ⟨x, h1, h2, h3, h4, fun i hi => ?_, h6⟩
    have := h5 i hi
    rw [hb.cell (World.block_lt_of_cell? w _ this)]; exact this

def rowAt (zs : List Int) (len k : Nat) : Int := if k < len then zs.getD k 0 else 0

set_option maxHeartbeats 400000 in
theorem cat_in (b o len cap : Nat) (v : Int) (k : Nat) (w : World) (hk : k < len) (hc : w.cell? ⟨b, o + k, none⟩ = some (.int .u64 v)) :
    Calls Yba.prog 4 #[.slice (some ⟨b, o, none⟩) len cap, .int .i64 k] w fun e w' => e = .returned (.int .u64 v) ∧ w = w' := by
  go_enter Yba.func4, Yba.ntmps4
  go_wp2
  go_ret
  exact ⟨rfl, rfl⟩

set_option maxHeartbeats 400000 in
theorem cat_out (a : Option Addr) (len cap : Nat) (k : Nat) (w : World) (hk : len ≤ k) :
    Calls Yba.prog 4 #[.slice a len cap, .int .i64 k] w fun e w' => e = .returned (.int .u64 0) ∧ w = w' := by
  go_enter Yba.func4, Yba.ntmps4
  go_wp2
  go_ret
  exact ⟨rfl, rfl⟩

theorem cat_any (a : Option Addr) (len cap : Nat) (zs : List Int) (k : Nat) (w : World) (h : IsRow .u64 w a len cap zs) :
    Calls Yba.prog 4 #[.slice a len cap, .int .i64 k] w fun e w' => e = .returned (.int .u64 (rowAt zs len k)) ∧ w = w' := by
  by_cases hlt : k < len
  · rcases h with ⟨rfl, rfl, rfl, rfl⟩ | ⟨x, rfl, h2, h3, h4, h5, h6⟩
    · omega
    · obtain ⟨b, off, rfl, hc⟩ := ints_at h5 (by omega)
      rw [rowAt, if_pos hlt]
      exact cat_in b off len cap _ k w hlt (hc k (by omega))
  · rw [rowAt, if_neg hlt]
    exact cat_out a len cap k w (by omega)

/-- What Less answers of two sources. -/
def lessB (ra ka rb kb : Int) : Bool := if ra = rb then decide (ka < kb) else decide (ra < rb)

set_option maxHeartbeats 1000000 in
theorem less_ne (G n c a b ba bb : Nat) (ra rb : Int) (w : World) (ha : a < n) (hb : b < n) (h1 : w.cell? ⟨G, a, none⟩ = some (.pointer (some ⟨ba, 0, none⟩))) (h2 : w.cell? ⟨G, b, none⟩ = some (.pointer (some ⟨bb, 0, none⟩)))
    (h3 : w.cell? ⟨ba, 11, none⟩ = some (.int .u64 ra)) (h4 : w.cell? ⟨bb, 11, none⟩ = some (.int .u64 rb)) (hne : (ra != rb) = true) :
    Calls Yba.prog 5 #[.slice (some ⟨G, 0, none⟩) n c, .int .i64 a, .int .i64 b] w fun e w' => e = .returned (.bool (decide (ra < rb))) ∧ ∃ q, w' = w.drewN q := by
  go_enter Yba.func5, Yba.ntmps5
  go_wp2
  go_quiet (fail)
  go_wp2
  go_quiet (fail)
  go_wp2
  go_ret
  exact ⟨rfl, _, World.drewN_drewN _ _ _⟩

set_option maxHeartbeats 1000000 in
theorem less_eq (G n c a b ba bb : Nat) (r ka kb : Int) (w : World) (ha : a < n) (hb : b < n) (h1 : w.cell? ⟨G, a, none⟩ = some (.pointer (some ⟨ba, 0, none⟩))) (h2 : w.cell? ⟨G, b, none⟩ = some (.pointer (some ⟨bb, 0, none⟩)))
    (h3 : w.cell? ⟨ba, 11, none⟩ = some (.int .u64 r)) (h4 : w.cell? ⟨bb, 11, none⟩ = some (.int .u64 r)) (h5 : w.cell? ⟨ba, 10, none⟩ = some (.int .u64 ka)) (h6 : w.cell? ⟨bb, 10, none⟩ = some (.int .u64 kb)) :
    Calls Yba.prog 5 #[.slice (some ⟨G, 0, none⟩) n c, .int .i64 a, .int .i64 b] w fun e w' => e = .returned (.bool (decide (ka < kb))) ∧ ∃ q, w' = w.drewN q := by
  go_enter Yba.func5, Yba.ntmps5
  go_wp2
  go_quiet (fail)
  go_wp2
  go_quiet (fail)
  go_wp2
  go_ret
  exact ⟨rfl, _, World.drewN_drewN _ _ _⟩

theorem less_any (G n c a b ba bb : Nat) (ra ka rb kb : Int) (w : World) (ha : a < n) (hb : b < n) (h1 : w.cell? ⟨G, a, none⟩ = some (.pointer (some ⟨ba, 0, none⟩))) (h2 : w.cell? ⟨G, b, none⟩ = some (.pointer (some ⟨bb, 0, none⟩)))
    (h3 : w.cell? ⟨ba, 11, none⟩ = some (.int .u64 ra)) (h4 : w.cell? ⟨bb, 11, none⟩ = some (.int .u64 rb)) (h5 : w.cell? ⟨ba, 10, none⟩ = some (.int .u64 ka)) (h6 : w.cell? ⟨bb, 10, none⟩ = some (.int .u64 kb)) :
    Calls Yba.prog 5 #[.slice (some ⟨G, 0, none⟩) n c, .int .i64 a, .int .i64 b] w fun e w' => e = .returned (.bool (lessB ra ka rb kb)) ∧ ∃ q, w' = w.drewN q := by
  by_cases he : ra = rb
  · subst he
    rw [lessB, if_pos rfl]
    exact less_eq G n c a b ba bb ra ka kb w ha hb h1 h2 h3 h4 h5 h6
  · rw [lessB, if_neg he]
    exact less_ne G n c a b ba bb ra rb w ha hb h1 h2 h3 h4 (by simpa using he)

end Go.Proofs.Ybulkdsce
