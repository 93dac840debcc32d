/-
  The writer's TryLock and Unlock of the RWMutex, and the reader's method NeedsClock, at a lock that nobody holds.
-/
import Derived.Test.YbulkdsduA
namespace Go.Proofs.Ybulkdsdu
open Go.RowKit (wrap32 wrap64)
set_option maxRecDepth 100000
set_option maxHeartbeats 1600000

theorem mutex_try (a : Addr) (w : World) (hc : w.cell? a = some (.int .i32 0)) (hz : w.frozen? a = false) :
    Calls Yba.prog 13 #[.pointer (some a)] w fun e w' => e = .returned (.bool true) ∧ w' = w.setCell a (.int .i32 1) := by
  go_enter Yba.func13, Yba.ntmps13
  go_wp2_with (go_at_call 26; refine (trylock_free a _ hc hz).mono ?_; rintro e w' ⟨rfl, rfl⟩)
  go_ret
  exact ⟨rfl, rfl⟩

theorem mutex_unlock (a : Addr) (w : World) (hc : w.cell? a = some (.int .i32 1)) (hz : w.frozen? a = false) :
    Calls Yba.prog 16 #[.pointer (some a)] w fun e w' => e = .returned (.tuple #[]) ∧ w' = w.setCell a (.int .i32 0) := by
  go_enter Yba.func16, Yba.ntmps16
  go_wp2_with (go_at_call 28; refine (unlock_held a _ hc hz).mono ?_; rintro e w' ⟨rfl, rfl⟩)
  go_end0
  exact ⟨rfl, rfl⟩

/-- A writer's TryLock where nobody stands at the lock: taken. -/
theorem rwtry_free (b off : Nat) (x2 x3 : Value) (w : World) (c0 : w.cell? ⟨b, off, none⟩ = some (.int .i32 0)) (c2 : w.cell? ⟨b, off + 2, none⟩ = some x2) (c3 : w.cell? ⟨b, off + 3, none⟩ = some x3)
    (hc : w.cell? ⟨b, off + 4, none⟩ = some (.int .i32 0)) (z0 : w.frozen? ⟨b, off, none⟩ = false) (hz : w.frozen? ⟨b, off + 4, none⟩ = false) :
    Calls Yba.prog 5 #[.pointer (some ⟨b, off, none⟩)] w fun e w' => e = .returned (.bool true) ∧
      w' = (w.setCell ⟨b, off, none⟩ (.int .i32 1)).setCell ⟨b, off + 4, none⟩ (.int .i32 (-1073741824)) := by
  have h1 := raceRead
  have h2 := disable
  have h3 := enable
  have h4 := acquire
  have v0 := run_convert_to_unsafe (P := Yba.prog) (src := 132) (dst := 39) Yba.underlying132 Yba.underlying39 (by kernel_rfl) c0
  have c4' : (w.setCell ⟨b, off, none⟩ (.int .i32 1)).cell? ⟨b, off + 4, none⟩ = some (.int .i32 0) := (World.cell?_setCell_other w ⟨b, off, none⟩ ⟨b, off + 4, none⟩ _ (by simp)).trans hc
  have z4' : (w.setCell ⟨b, off, none⟩ (.int .i32 1)).frozen? ⟨b, off + 4, none⟩ = false := by simp [hz]
  have hcas := run_call_cas_hit (P := Yba.prog) Yba.func27 (by kernel_rfl) (by kernel_rfl) (by kernel_rfl) .i32 (by kernel_rfl) (y := -1073741824) c4' z4'
  have c2' : ((w.setCell ⟨b, off, none⟩ (.int .i32 1)).setCell ⟨b, off + 4, none⟩ (.int .i32 (-1073741824))).cell? ⟨b, off + 2, none⟩ = some x2 := (World.cell?_setCell_other _ ⟨b, off + 4, none⟩ ⟨b, off + 2, none⟩ _ (by simp)).trans ((World.cell?_setCell_other w ⟨b, off, none⟩ ⟨b, off + 2, none⟩ _ (by simp)).trans c2)
  have c3' : ((w.setCell ⟨b, off, none⟩ (.int .i32 1)).setCell ⟨b, off + 4, none⟩ (.int .i32 (-1073741824))).cell? ⟨b, off + 3, none⟩ = some x3 := (World.cell?_setCell_other _ ⟨b, off + 4, none⟩ ⟨b, off + 3, none⟩ _ (by simp)).trans ((World.cell?_setCell_other w ⟨b, off, none⟩ ⟨b, off + 3, none⟩ _ (by simp)).trans c3)
  have v2 := run_convert_to_unsafe (P := Yba.prog) (src := 134) (dst := 39) Yba.underlying134 Yba.underlying39 (by kernel_rfl) c2'
  have v3 := run_convert_to_unsafe (P := Yba.prog) (src := 134) (dst := 39) Yba.underlying134 Yba.underlying39 (by kernel_rfl) c3'
  have hsw : Calls Yba.prog 15 #[.pointer (some ⟨b, off + 4, none⟩), .int .i32 0, .int .i32 (-1073741824)] (w.setCell ⟨b, off, none⟩ (.int .i32 1)) fun e w' => e = .returned (.bool true) ∧
      w' = (w.setCell ⟨b, off, none⟩ (.int .i32 1)).setCell ⟨b, off + 4, none⟩ (.int .i32 (-1073741824)) := by
    go_enter Yba.func15, Yba.ntmps15
    go_wp2
    go_ret
    exact ⟨rfl, rfl⟩
  go_enter Yba.func5, Yba.ntmps5
  go_wp2_with (first
    | (go_at_call 13; refine (mutex_try _ _ c0 z0).mono ?_; rintro e w' ⟨rfl, rfl⟩)
    | (go_at_call 15; refine hsw.mono ?_; rintro e w' ⟨rfl, rfl⟩))
  go_ret
  exact ⟨rfl, rfl⟩

/-- The writer's Unlock behind it. -/
theorem rwunlock_held (b off : Nat) (x2 x3 : Value) (w : World) (c0 : w.cell? ⟨b, off, none⟩ = some (.int .i32 1)) (c2 : w.cell? ⟨b, off + 2, none⟩ = some x2) (c3 : w.cell? ⟨b, off + 3, none⟩ = some x3)
    (hc : w.cell? ⟨b, off + 4, none⟩ = some (.int .i32 (-1073741824))) (z0 : w.frozen? ⟨b, off, none⟩ = false) (hz : w.frozen? ⟨b, off + 4, none⟩ = false) :
    Calls Yba.prog 6 #[.pointer (some ⟨b, off, none⟩)] w fun e w' => e = .returned (.tuple #[]) ∧
      w' = (w.setCell ⟨b, off + 4, none⟩ (.int .i32 0)).setCell ⟨b, off, none⟩ (.int .i32 0) := by
  have h1 := raceRead
  have h2 := disable
  have h3 := enable
  have h4 := release
  have h5 := releaseMerge
  have v0 := run_convert_to_unsafe (P := Yba.prog) (src := 132) (dst := 39) Yba.underlying132 Yba.underlying39 (by kernel_rfl) c0
  have v2 := run_convert_to_unsafe (P := Yba.prog) (src := 134) (dst := 39) Yba.underlying134 Yba.underlying39 (by kernel_rfl) c2
  have v3 := run_convert_to_unsafe (P := Yba.prog) (src := 134) (dst := 39) Yba.underlying134 Yba.underlying39 (by kernel_rfl) c3
  have hadd := run_call_add (P := Yba.prog) Yba.func29 (by kernel_rfl) (by kernel_rfl) (by kernel_rfl) .i32 (by kernel_rfl) (y := 1073741824) (s := 0) hc hz (by simp [go_sem]; rfl)
  have hup : Calls Yba.prog 20 #[.pointer (some ⟨b, off + 4, none⟩), .int .i32 1073741824] w fun e w' => e = .returned (.int .i32 0) ∧
      w' = w.setCell ⟨b, off + 4, none⟩ (.int .i32 0) := by
    go_enter Yba.func20, Yba.ntmps20
    go_wp2
    go_ret
    exact ⟨rfl, rfl⟩
  have c0' : (w.setCell ⟨b, off + 4, none⟩ (.int .i32 0)).cell? ⟨b, off, none⟩ = some (.int .i32 1) := (World.cell?_setCell_other w ⟨b, off + 4, none⟩ ⟨b, off, none⟩ _ (by simp)).trans c0
  have z0' : (w.setCell ⟨b, off + 4, none⟩ (.int .i32 0)).frozen? ⟨b, off, none⟩ = false := by simp [z0]
  go_enter Yba.func6, Yba.ntmps6
  go_wp2_with (first
    | (go_at_call 20; refine hup.mono ?_; rintro e w' ⟨rfl, rfl⟩)
    | (go_at_call 16; refine (mutex_unlock _ _ c0' z0').mono ?_; rintro e w' ⟨rfl, rfl⟩))
  apply wp_loop_once
  go_wp2_with (go_at_call 16; refine (mutex_unlock _ _ c0' z0').mono ?_; rintro e w' ⟨rfl, rfl⟩)
  go_end0
  exact ⟨rfl, rfl⟩

/-- The reader's method at a Store whose lock is free and whose flag is set: true; the lock is let go of again. -/
theorem needs_any (b : Nat) (x0 x2 x3 : Value) (w : World) (c0 : w.cell? ⟨b, 37, none⟩ = some x0) (c2 : w.cell? ⟨b, 39, none⟩ = some x2) (c3 : w.cell? ⟨b, 40, none⟩ = some x3)
    (hc : w.cell? ⟨b, 41, none⟩ = some (.int .i32 0)) (hz : w.frozen? ⟨b, 41, none⟩ = false) (hg : w.cell? ⟨b, 126, none⟩ = some (.bool true)) :
    Calls Yba.prog 4 #[.pointer (some ⟨b, 0, none⟩)] w fun e w' => e = .returned (.bool true) ∧
      w' = (w.setCell ⟨b, 41, none⟩ (.int .i32 1)).setCell ⟨b, 41, none⟩ (.int .i32 0) := by
  have hg' : (w.setCell ⟨b, 41, none⟩ (.int .i32 1)).cell? ⟨b, 126, none⟩ = some (.bool true) := (World.cell?_setCell_other _ ⟨b, 41, none⟩ ⟨b, 126, none⟩ _ (by simp)).trans hg
  have c0' : (w.setCell ⟨b, 41, none⟩ (.int .i32 1)).cell? ⟨b, 37, none⟩ = some x0 := (World.cell?_setCell_other _ ⟨b, 41, none⟩ ⟨b, 37, none⟩ _ (by simp)).trans c0
  have c2' : (w.setCell ⟨b, 41, none⟩ (.int .i32 1)).cell? ⟨b, 39, none⟩ = some x2 := (World.cell?_setCell_other _ ⟨b, 41, none⟩ ⟨b, 39, none⟩ _ (by simp)).trans c2
  go_enter_defers Yba.func4, Yba.ntmps4
  go_wp2_with (go_at_call 7; refine (rlock_free b 37 x0 x3 _ c0 c3 hc hz).mono ?_; rintro e w' ⟨rfl, rfl⟩)
  refine leaves_cons (f := 8) (args := #[.pointer (some ⟨b, 37, none⟩)]) (by simp) (by simp [go_sem]) ?_
  refine (runlock_deferred b 37 x0 x2 .returning _ c0' c2' (World.cell?_setCell_same w _ _ hc) (by simp [hz])).mono ?_
  rintro e u' w'' ⟨rfl, rfl, rfl⟩
  exact ⟨_, results_tmp rfl _ _ _, rfl, rfl⟩
end Go.Proofs.Ybulkdsdu
