/-
  Contracts: status (7), nsec (15), addSec (16), Time.Add (12) at the zero Time.
-/
import Derived.Test.YbulkdsbqRows
import Derived.WalkKit
import Derived.WalkSpells
import Derived.WalkLawsBesides
import Derived.Laws.BitsAllLaws
namespace Go.Proofs.Ybulkdsbq
open Go.RowKit

def statusOf (x : Int) : ByteArray :=
  if x % 6 = 0 then ⟨#[110, 101, 119]⟩ else if x % 6 = 1 then ⟨#[111, 112, 101, 110]⟩ else if x % 6 = 2 then ⟨#[111, 118, 101, 114, 100, 117, 101]⟩
  else if x % 6 = 3 then ⟨#[99, 117, 114, 101, 100]⟩ else if x % 6 = 4 then ⟨#[97, 99, 116, 105, 118, 101]⟩ else ⟨#[]⟩

set_option maxHeartbeats 400000 in
theorem status_any (x : Int) (w : World) (h0 : 0 ≤ x) (h1 : x ≤ 255) :
    Calls Yba.prog 7 #[.int .u8 x] w fun e w' => e = .returned (.string (statusOf x)) ∧ w' = w := by
  go_enter Yba.func7, Yba.ntmps7
  go_wp2
  all_goals (go_ret; refine ⟨?_, rfl⟩; simp_all [statusOf])

/-- The wall word and the seconds of 'time.Time{}.Add(d)'. -/
def addW (d : Int) : Int := d % 1000000000
def addE (d : Int) : Int := d / 1000000000

theorem and_mask0 : bits .and .u64 0 1073741823 = 0 := by decide
theorem andNot_mask0 : bits .andNot .u64 0 1073741823 = 0 := by decide
theorem or_zero_u64 (n : Int) (h0 : 0 ≤ n) (h1 : n < 1000000000) : bits .or .u64 0 n = n := by
  rw [u64_or 0 n (by omega) (by omega) h0 (by omega)]
  simp; omega

theorem bit63 (n : Int) (h0 : 0 ≤ n) (h1 : n < 1000000000) : (bits .and .u64 n 9223372036854775808 != 0) = false := by
  rw [u64_and n _ h0 (by omega) (by decide) (by decide)]
  have e : (9223372036854775808 : Int).toNat = 2 ^ 63 := by decide
  rw [e, nat_bit]
  have : n.toNat / 2 ^ 63 = 0 := Nat.div_eq_of_lt (by omega)
  rw [this]; decide

set_option maxHeartbeats 400000 in
theorem nsec_zero (b : Nat) (w : World) (hc : w.cell? ⟨b, 0, none⟩ = some (.int .u64 0)) :
    Calls Yba.prog 15 #[.pointer (some ⟨b, 0, none⟩)] w fun e w' => e = .returned (.int .i32 0) ∧ w' = w := by
  have h1 := and_mask0
  go_enter Yba.func15, Yba.ntmps15
  go_wp2
  go_ret
  exact ⟨rfl, rfl⟩

set_option maxHeartbeats 400000 in
theorem addSec_any (b : Nat) (n d : Int) (w : World) (h0 : 0 ≤ n) (h1 : n < 1000000000) (d0 : -9223372036854775808 ≤ d) (d1 : d ≤ 9223372036854775807)
    (hc : w.cell? ⟨b, 0, none⟩ = some (.int .u64 n)) (hx : w.cell? ⟨b, 1, none⟩ = some (.int .i64 0)) (hf : w.frozen? ⟨b, 1, none⟩ = false) :
    Calls Yba.prog 16 #[.pointer (some ⟨b, 0, none⟩), .int .i64 d] w fun e w' => e = .returned (.tuple #[]) ∧ w' = w.setCell ⟨b, 1, none⟩ (.int .i64 d) := by
  have hb := bit63 n h0 h1
  go_enter Yba.func16, Yba.ntmps16
  go_wp2
  go_end0
  exact ⟨rfl, rfl⟩

set_option maxHeartbeats 1000000 in
theorem add_nonneg (d : Int) (w : World) (h0 : 0 ≤ d) (h1 : d ≤ 9223372036854775807) :
    Calls Yba.prog 12 #[.agg #[.int .u64 0, .int .i64 0, .pointer none], .int .i64 d] w fun e w' =>
      e = .returned (.agg #[.int .u64 (addW d), .int .i64 (addE d), .pointer none]) ∧ Below w.heap.size w w' := by
  have e1 := andNot_mask0
  have e2 := or_zero_u64 (d % 1000000000) (by omega) (by omega)
  have e3 := bit63 (d % 1000000000) (by omega) (by omega)
  go_enter Yba.func12, Yba.ntmps12
  go_wp2_with (go_at_call 15; refine (nsec_zero _ _ ?_).mono ?_; (simp); rintro e w' ⟨rfl, rfl⟩)
  refine (addSec_any _ (d % 1000000000) (d / 1000000000) _ (by omega) (by omega) (by omega) (by omega) ?_ ?_ ?_).mono ?_
  · simp
  · simp
  · simp
  rintro e w' ⟨rfl, rfl⟩
  go_wp2
  exact bodyPost_ret (v := .agg #[.int .u64 (addW d), .int .i64 (addE d), .pointer none]) (by simp [results, Yba.results12, go_sem, addW, addE]) rfl ⟨rfl, by
    repeat (first | exact Below.refl _ _ | apply Below.alloc _ (by simp) | apply Below.setCell _ (by simp))⟩

theorem tneg (d : Int) (h : d < 0) : (d.tmod 1000000000 = 0 ∧ d.tdiv 1000000000 = d / 1000000000 ∧ d % 1000000000 = 0) ∨
    (d.tmod 1000000000 < 0 ∧ -1000000000 < d.tmod 1000000000 ∧ d.tdiv 1000000000 - 1 = d / 1000000000 ∧ d.tmod 1000000000 + 1000000000 = d % 1000000000) := by
  have h2 := Int.mul_tdiv_add_tmod d 1000000000
  have h3 : (-d).tdiv 1000000000 = (-d) / 1000000000 := Int.tdiv_eq_ediv_of_nonneg (by omega)
  have h4 : (-d).tdiv 1000000000 = - d.tdiv 1000000000 := Int.neg_tdiv ..
  rw [h4] at h3
  omega

set_option maxHeartbeats 1000000 in
theorem add_neg0 (d : Int) (w : World) (h0 : d < 0) (h1 : -9223372036854775808 ≤ d) (t1 : d.tmod 1000000000 = 0) (t2 : d.tdiv 1000000000 = d / 1000000000) (t3 : d % 1000000000 = 0) :
    Calls Yba.prog 12 #[.agg #[.int .u64 0, .int .i64 0, .pointer none], .int .i64 d] w fun e w' =>
      e = .returned (.agg #[.int .u64 (addW d), .int .i64 (addE d), .pointer none]) ∧ Below w.heap.size w w' := by
  have e1 := andNot_mask0
  have e2 := or_zero_u64 0 (by omega) (by omega)
  have e3 := bit63 0 (by omega) (by omega)
  have HA : Hid (addW d = 0) := t3
  clear t3
  go_enter Yba.func12, Yba.ntmps12
  go_wp2_with (go_at_call 15; refine (nsec_zero _ _ ?_).mono ?_; (simp); rintro e w' ⟨rfl, rfl⟩)
  refine (addSec_any _ 0 (d / 1000000000) _ (by omega) (by omega) (by omega) (by omega) ?_ ?_ ?_).mono ?_
  · simp
  · simp
  · simp
  rintro e w' ⟨rfl, rfl⟩
  go_wp2
  exact bodyPost_ret (v := .agg #[.int .u64 (addW d), .int .i64 (addE d), .pointer none]) (by simp [results, Yba.results12, go_sem, HA.out, addE]) rfl ⟨rfl, by
    repeat (first | exact Below.refl _ _ | apply Below.alloc _ (by simp) | apply Below.setCell _ (by simp))⟩

set_option maxHeartbeats 1000000 in
theorem add_neg1 (d : Int) (w : World) (h0 : d < 0) (h1 : -9223372036854775808 ≤ d) (t1 : d.tmod 1000000000 < 0) (t2 : -1000000000 < d.tmod 1000000000) (t3 : d.tdiv 1000000000 - 1 = d / 1000000000) (t4 : d.tmod 1000000000 + 1000000000 = d % 1000000000) :
    Calls Yba.prog 12 #[.agg #[.int .u64 0, .int .i64 0, .pointer none], .int .i64 d] w fun e w' =>
      e = .returned (.agg #[.int .u64 (addW d), .int .i64 (addE d), .pointer none]) ∧ Below w.heap.size w w' := by
  have e1 := andNot_mask0
  have e2 := or_zero_u64 (d % 1000000000) (by omega) (by omega)
  have e3 := bit63 (d % 1000000000) (by omega) (by omega)
  go_enter Yba.func12, Yba.ntmps12
  go_wp2_with (go_at_call 15; refine (nsec_zero _ _ ?_).mono ?_; (simp); rintro e w' ⟨rfl, rfl⟩)
  refine (addSec_any _ (d % 1000000000) (d / 1000000000) _ (by omega) (by omega) (by omega) (by omega) ?_ ?_ ?_).mono ?_
  · simp
  · simp
  · simp
  rintro e w' ⟨rfl, rfl⟩
  go_wp2
  exact bodyPost_ret (v := .agg #[.int .u64 (addW d), .int .i64 (addE d), .pointer none]) (by simp [results, Yba.results12, go_sem, addW, addE]) rfl ⟨rfl, by
    repeat (first | exact Below.refl _ _ | apply Below.alloc _ (by simp) | apply Below.setCell _ (by simp))⟩

theorem add_any (d : Int) (w : World) (h0 : -9223372036854775808 ≤ d) (h1 : d ≤ 9223372036854775807) :
    Calls Yba.prog 12 #[.agg #[.int .u64 0, .int .i64 0, .pointer none], .int .i64 d] w fun e w' =>
      e = .returned (.agg #[.int .u64 (addW d), .int .i64 (addE d), .pointer none]) ∧ Below w.heap.size w w' := by
  by_cases h : 0 ≤ d
  · exact add_nonneg d w h h1
  · rcases tneg d (by omega) with ⟨a, b, c⟩ | ⟨a, b, c, e⟩
    · exact add_neg0 d w (by omega) h0 a b c
    · exact add_neg1 d w (by omega) h0 a b c e

end Go.Proofs.Ybulkdsbq
