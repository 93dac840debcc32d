/-
  Contracts: zzs5944blimeq (13), zzs5944bleq (8), zzs5944bweq (9), where both sides say the same.
-/
import Derived.Test.YbulkdsbqB
namespace Go.Proofs.Ybulkdsbq
open Go.RowKit

theorem Below.drewN' {B : Nat} {a w : World} (h : Below B a w) (n : Nat) : Below B a (w.drewN n) := ⟨h.os, h.tape, h.output, h.size, h.block⟩

set_option maxRecDepth 100000 in
set_option maxHeartbeats 1000000 in
theorem limeq_any (id side gb ofv cin : ByteArray) (a b : Option Addr) (l c l' c' : Nat) (floor : Bool) (cd : Int) (ss : List ByteArray) (lo lo' : Nat) (w : World)
    (hss : ss.length * 16 ≤ 140737488351232) (h1 : SelF w lo (.slice a l c) ss) (h2 : SelF w lo' (.slice b l' c') ss) (hn : a.isNone = b.isNone) :
    Calls Yba.prog 13 #[.agg #[.string id, .slice a l c, .string side, .string gb, .string ofv, .int .i64 0, .pointer none, .int .i64 0, .bool floor, .int .i64 cd, .string cin],
      .agg #[.string id, .slice b l' c', .string side, .string gb, .string ofv, .int .i64 0, .pointer none, .int .i64 0, .bool floor, .int .i64 cd, .string cin]] w fun e w' => e = .returned (.bool true) ∧ Below w.heap.size w w' := by
  have hq := fun (w : World) (a : Option Addr) (l c : Nat) => Lib.run_eql_slice_nil (P := Yba.prog) w 24 9 a l c 0 0 Yba.underlying24
  have H1 : Hid (SelF w lo (.slice a l c) ss) := h1
  have H2 : Hid (SelF w lo' (.slice b l' c') ss) := h2
  clear h1 h2
  go_enter Yba.func13, Yba.ntmps13
  go_wp2_with fail
  have hb2 : ∀ o1 o2, Below w.heap.size w ((w.alloc o1).alloc o2) := fun _ _ => ((Below.refl _ _).alloc (Nat.le_refl _) _).alloc (by simp) _
  refine (equal_any _ _ ss _ lo lo' hss (H1.out.below (hb2 _ _)) (H2.out.below (hb2 _ _))).mono ?_
  rintro e w' ⟨rfl, n, rfl⟩
  clear hb2
  go_wp2
  go_ret
  exact ⟨rfl, Below.drewN' (((Below.refl _ _).alloc (Nat.le_refl _) _).alloc (by simp) _) n⟩

theorem below2 {w w1 : World} {o1 o2 : Obj} (hb : Below ((w.alloc o1).alloc o2).heap.size ((w.alloc o1).alloc o2) w1) : Below w.heap.size w w1 :=
  (((Below.refl _ _).alloc (Nat.le_refl _) _).alloc (by simp) _).trans (hb.mono (by simp; omega))

theorem eqNil37 (w : World) : (Op.equalIn 9999 37 (.pointer none) (.pointer none)).run Yba.prog w = .ok true w := by kernel_rfl

theorem bcell {W w1 : World} (hb : Below W.heap.size W w1) : (∀ b o, b < W.heap.size → w1.cell? ⟨b, o, none⟩ = W.cell? ⟨b, o, none⟩) ∧ (∀ b o, b < W.heap.size → w1.frozen? ⟨b, o, none⟩ = W.frozen? ⟨b, o, none⟩) :=
  ⟨fun b o h => hb.cell (p := ⟨b, o, none⟩) h, fun b o h => hb.frozen (p := ⟨b, o, none⟩) h⟩

set_option maxRecDepth 100000 in
set_option maxHeartbeats 1000000 in
theorem leq_any (fund id side gb ofv cin group cause status : ByteArray) (a b : Option Addr) (l c l' c' : Nat) (floor : Bool) (cd sw se dw de : Int) (ss : List ByteArray) (lo lo' : Nat) (w : World)
    (hss : ss.length * 16 ≤ 140737488351232) (h1 : SelF w lo (.slice a l c) ss) (h2 : SelF w lo' (.slice b l' c') ss) (hn : a.isNone = b.isNone) :
    Calls Yba.prog 8 #[.agg #[.string fund, .string id, .slice a l c, .string side, .string gb, .string ofv, .int .i64 0, .pointer none, .int .i64 0, .bool floor, .int .i64 cd, .string cin, .string group, .int .u64 sw, .int .i64 se, .pointer none, .string cause],
      .agg #[.string fund, .string id, .slice b l' c', .string side, .string gb, .string ofv, .int .i64 0, .pointer none, .int .i64 0, .bool floor, .int .i64 cd, .string cin, .string group, .int .u64 sw, .int .i64 se, .pointer none, .string cause, .int .u64 dw, .int .i64 de, .pointer none, .string status]] w fun e w' => e = .returned (.bool true) ∧ Below w.heap.size w w' := by
  have H1 : Hid (SelF w lo (.slice a l c) ss) := h1
  have H2 : Hid (SelF w lo' (.slice b l' c') ss) := h2
  clear h1 h2
  go_enter Yba.func8, Yba.ntmps8
  go_wp2_with fail
  have hb2 : ∀ o1 o2, Below w.heap.size w ((w.alloc o1).alloc o2) := fun _ _ => ((Below.refl _ _).alloc (Nat.le_refl _) _).alloc (by simp) _
  refine (limeq_any _ _ _ _ _ _ _ _ _ _ _ _ _ ss lo lo' _ hss (H1.out.below (hb2 _ _)) (H2.out.below (hb2 _ _)) hn).mono ?_
  rintro e w1 ⟨rfl, hb⟩
  obtain ⟨hc, hf⟩ := bcell hb
  have HB := below2 hb
  have hpn := eqNil37
  clear hb2 hb
  go_wp2
  go_ret
  exact ⟨rfl, HB⟩

set_option maxRecDepth 100000 in
set_option maxHeartbeats 1000000 in
theorem weq_any (fund id side gb ofv cin group cause status : ByteArray) (a b : Option Addr) (l c l' c' : Nat) (floor : Bool) (cd sw se dw de : Int) (ss : List ByteArray) (lo lo' : Nat) (w : World)
    (hss : ss.length * 16 ≤ 140737488351232) (h1 : SelF w lo (.slice a l c) ss) (h2 : SelF w lo' (.slice b l' c') ss) (hn : a.isNone = b.isNone) :
    Calls Yba.prog 9 #[.agg #[.string fund, .string id, .slice a l c, .string side, .string gb, .string ofv, .int .i64 0, .pointer none, .int .i64 0, .bool floor, .int .i64 cd, .string cin, .string group, .int .u64 sw, .int .i64 se, .pointer none, .string cause, .int .u64 dw, .int .i64 de, .pointer none, .string status],
      .agg #[.string fund, .string id, .slice b l' c', .string side, .string gb, .string ofv, .int .i64 0, .pointer none, .int .i64 0, .bool floor, .int .i64 cd, .string cin, .string group, .int .u64 sw, .int .i64 se, .pointer none, .string cause, .int .u64 dw, .int .i64 de, .pointer none, .string status]] w fun e w' => e = .returned (.bool true) ∧ Below w.heap.size w w' := by
  have H1 : Hid (SelF w lo (.slice a l c) ss) := h1
  have H2 : Hid (SelF w lo' (.slice b l' c') ss) := h2
  clear h1 h2
  go_enter Yba.func9, Yba.ntmps9
  go_wp2_with fail
  have hb2 : ∀ o1 o2, Below w.heap.size w ((w.alloc o1).alloc o2) := fun _ _ => ((Below.refl _ _).alloc (Nat.le_refl _) _).alloc (by simp) _
  refine (limeq_any _ _ _ _ _ _ _ _ _ _ _ _ _ ss lo lo' _ hss (H1.out.below (hb2 _ _)) (H2.out.below (hb2 _ _)) hn).mono ?_
  rintro e w1 ⟨rfl, hb⟩
  obtain ⟨hc, hf⟩ := bcell hb
  have HB := below2 hb
  have hpn := eqNil37
  clear hb2 hb
  go_wp2
  go_ret
  exact ⟨rfl, HB⟩

end Go.Proofs.Ybulkdsbq
