/-
  The lock of package sync on this law's road, one goroutine: a reader's RLock and its deferred RUnlock, a writer's TryLock and Unlock, each at a lock that nobody else holds.
-/
import Derived.Test.YbulkdsduRows
import Derived.Tactics
import Derived.Tactics2
import Derived.Defers
import Derived.WalkKit
import Derived.Laws.Pointers
import Derived.Laws.LoneSync
namespace Go.Proofs.Ybulkdsdu
open Go.RowKit (wrap32 wrap64)
set_option maxRecDepth 100000
set_option maxHeartbeats 1600000

theorem raceRead (a : Addr) (w : World) : (callFunc 11 #[.pointer (some a)]).run Yba.prog w = .ok (.value (.tuple #[])) w := run_call_marked Yba.func11 (by kernel_rfl) (by kernel_rfl) (by kernel_rfl) .read (by kernel_rfl) a w
theorem disable (w : World) : (callFunc 12 #[]).run Yba.prog w = .ok (.value (.tuple #[])) w := run_call_mark0 Yba.func12 (by kernel_rfl) (by kernel_rfl) (by kernel_rfl) .disable (by kernel_rfl) w
theorem enable (w : World) : (callFunc 14 #[]).run Yba.prog w = .ok (.value (.tuple #[])) w := run_call_mark0 Yba.func14 (by kernel_rfl) (by kernel_rfl) (by kernel_rfl) .enable (by kernel_rfl) w
theorem acquire (a : Addr) (w : World) : (callFunc 17 #[.pointer (some a)]).run Yba.prog w = .ok (.value (.tuple #[])) w := run_call_marked Yba.func17 (by kernel_rfl) (by kernel_rfl) (by kernel_rfl) .acquire (by kernel_rfl) a w
theorem release (a : Addr) (w : World) : (callFunc 18 #[.pointer (some a)]).run Yba.prog w = .ok (.value (.tuple #[])) w := run_call_marked Yba.func18 (by kernel_rfl) (by kernel_rfl) (by kernel_rfl) .release (by kernel_rfl) a w
theorem releaseMerge (a : Addr) (w : World) : (callFunc 19 #[.pointer (some a)]).run Yba.prog w = .ok (.value (.tuple #[])) w := run_call_marked Yba.func19 (by kernel_rfl) (by kernel_rfl) (by kernel_rfl) .releaseMerge (by kernel_rfl) a w

/-- A reader's lock where no reader and no writer stands: the count is one. -/
theorem rlock_free (b off : Nat) (x0 x3 : Value) (w : World) (c0 : w.cell? ⟨b, off, none⟩ = some x0) (c3 : w.cell? ⟨b, off + 3, none⟩ = some x3) (hc : w.cell? ⟨b, off + 4, none⟩ = some (.int .i32 0)) (hz : w.frozen? ⟨b, off + 4, none⟩ = false) :
    Calls Yba.prog 7 #[.pointer (some ⟨b, off, none⟩)] w fun e w' => e = .returned (.tuple #[]) ∧ w' = w.setCell ⟨b, off + 4, none⟩ (.int .i32 1) := by
  have h1 := raceRead
  have h2 := disable
  have h3 := enable
  have h4 := acquire
  have v0 := run_convert_to_unsafe (P := Yba.prog) (src := 132) (dst := 39) Yba.underlying132 Yba.underlying39 (by kernel_rfl) c0
  have hadd := run_call_add (P := Yba.prog) Yba.func29 (by kernel_rfl) (by kernel_rfl) (by kernel_rfl) .i32 (by kernel_rfl) (y := 1) (s := 1) hc hz (by simp [go_sem]; rfl)
  have c3' : (w.setCell ⟨b, off + 4, none⟩ (.int .i32 1)).cell? ⟨b, off + 3, none⟩ = some x3 := (World.cell?_setCell_other _ ⟨b, off + 4, none⟩ ⟨b, off + 3, none⟩ _ (by simp)).trans c3
  have v3 := run_convert_to_unsafe (P := Yba.prog) (src := 134) (dst := 39) Yba.underlying134 Yba.underlying39 (by kernel_rfl) c3'
  go_enter Yba.func7, Yba.ntmps7
  go_wp2
  go_end0
  exact ⟨rfl, rfl⟩

/-- The deferred RUnlock of the one reader: the count is none. -/
theorem runlock_deferred (b off : Nat) (x0 x2 : Value) (u : FrameMode) (w : World) (c0 : w.cell? ⟨b, off, none⟩ = some x0) (c2 : w.cell? ⟨b, off + 2, none⟩ = some x2) (hc : w.cell? ⟨b, off + 4, none⟩ = some (.int .i32 1)) (hz : w.frozen? ⟨b, off + 4, none⟩ = false) :
    CallsD Yba.prog 8 #[.pointer (some ⟨b, off, none⟩)] u w fun e u' w' => u' = u ∧ (e = .returned (.tuple #[]) ∧ w' = w.setCell ⟨b, off + 4, none⟩ (.int .i32 0)) := by
  have h1 := raceRead
  have h2 := disable
  have h3 := enable
  have h4 := releaseMerge
  have v0 := run_convert_to_unsafe (P := Yba.prog) (src := 132) (dst := 39) Yba.underlying132 Yba.underlying39 (by kernel_rfl) c0
  have v2 := run_convert_to_unsafe (P := Yba.prog) (src := 134) (dst := 39) Yba.underlying134 Yba.underlying39 (by kernel_rfl) c2
  have hadd := run_call_add (P := Yba.prog) Yba.func29 (by kernel_rfl) (by kernel_rfl) (by kernel_rfl) .i32 (by kernel_rfl) (y := -1) (s := 0) hc hz (by simp [go_sem]; rfl)
  go_enter_d Yba.func8, Yba.ntmps8
  go_wp2
  go_end0
  exact ⟨rfl, rfl⟩

/-- The writers' own mutex, free: TryLock takes it. -/
theorem trylock_free (a : Addr) (w : World) (hc : w.cell? a = some (.int .i32 0)) (hz : w.frozen? a = false) :
    Calls Yba.prog 26 #[.pointer (some a)] w fun e w' => e = .returned (.bool true) ∧ w' = w.setCell a (.int .i32 1) := by
  have h2 := disable
  have h3 := enable
  have h4 := acquire
  have hcas := run_call_cas_hit (P := Yba.prog) Yba.func27 (by kernel_rfl) (by kernel_rfl) (by kernel_rfl) .i32 (by kernel_rfl) (y := 1) hc hz
  have hc' : (w.setCell a (.int .i32 1)).cell? a = some (.int .i32 1) := World.cell?_setCell_same w a _ hc
  have v0 := run_convert_to_unsafe (P := Yba.prog) (src := 154) (dst := 39) Yba.underlying154 Yba.underlying39 (by kernel_rfl) hc'
  go_enter Yba.func26, Yba.ntmps26
  go_wp2
  go_ret
  exact ⟨rfl, rfl⟩

/-- The writers' own mutex, held: Unlock lets it go. -/
theorem unlock_held (a : Addr) (w : World) (hc : w.cell? a = some (.int .i32 1)) (hz : w.frozen? a = false) :
    Calls Yba.prog 28 #[.pointer (some a)] w fun e w' => e = .returned (.tuple #[]) ∧ w' = w.setCell a (.int .i32 0) := by
  have h2 := disable
  have h3 := enable
  have h4 := releaseMerge
  have v0 := run_convert_to_unsafe (P := Yba.prog) (src := 154) (dst := 39) Yba.underlying154 Yba.underlying39 (by kernel_rfl) hc
  have hadd := run_call_add (P := Yba.prog) Yba.func29 (by kernel_rfl) (by kernel_rfl) (by kernel_rfl) .i32 (by kernel_rfl) (y := -1) (s := 0) hc hz (by simp [go_sem]; rfl)
  go_enter Yba.func28, Yba.ntmps28
  go_wp2
  go_end0
  exact ⟨rfl, rfl⟩
end Go.Proofs.Ybulkdsdu
