/-
  Contract: zzs5944bwin (5).
-/
import Derived.Test.YbulkdsbqB
import Derived.Deep.RegionHeld3
namespace Go.Proofs.Ybulkdsbq
open Go.RowKit

theorem Hid.mk {p : Prop} (h : p) : Hid p := h

theorem below_setCells {B : Nat} {a : World} (g : Nat) (hg : B ≤ g) : ∀ (vs : List Value) (o : Nat) (w : World), Below B a w → Below B a (w.setCells g o vs)
  | [], _, _, h => h
  | v :: r, o, _, h => below_setCells g hg r (o + 1) _ (h.setCell (p := ⟨g, o, none⟩) hg v)

theorem size_setCells (g : Nat) : ∀ (vs : List Value) (o : Nat) (w : World), (w.setCells g o vs).heap.size = w.heap.size
  | [], _, _ => rfl
  | v :: r, o, w => by rw [World.setCells, size_setCells g r, World.size_setCell]

/-- The cells of a value under a name are stored: the rule that the walk is handed. -/
theorem store_opq {P : Program} (b n : Nat) (C : Array Value) (hs : C.size = n) (h1 : ∀ u ∈ C.toList, u.oneCell' = true) (w1 : World) (ht : w1.there b 0 n) :
    (storeCells ⟨b, 0, none⟩ C.toList).run P w1 = .ok () (w1.setCells b 0 C.toList) := by
  have hl : C.toList.length = n := by simpa using hs
  have := run_storeCells_cells (P := P) b 0 C.toList 0 w1 (fun j hj => by simpa using (ht j (by omega)).1) (fun j hj => by simpa using (ht j (by omega)).2) h1
  simpa using this

theorem SelF.lift {w : World} {lo lo' : Nat} {v : Value} {ss : List ByteArray} (h : SelF w lo v ss) (hl : lo' ≤ lo) : SelF w lo' v ss := by
  rcases h with h | ⟨x, c, h1, h2, h3⟩
  · exact .inl h
  · exact .inr ⟨x, c, h1, by omega, h3⟩
theorem SelF.setCells {w : World} {lo : Nat} {v : Value} {ss : List ByteArray} (h : SelF w lo v ss) (b o : Nat) (vs : List Value) (hb : b < lo) : SelF (w.setCells b o vs) lo v ss := by
  rcases h with h | ⟨x, c, h1, h2, h3⟩
  · exact .inl h
  · refine .inr ⟨x, c, h1, h2, fun i hi => ?_⟩
    rw [World.cell?_setCells_out _ _ _ _ _ (fun e => ?_)]
    · exact h3 i hi
    · exfalso
      have : (x.add i).block = x.block := by unfold Addr.add; split <;> rfl
      omega
theorem size_start (w : World) (o1 o2 : Obj) : ((w.alloc o1).alloc o2).drew.heap.size = w.heap.size + 2 := by
  show ((w.alloc o1).alloc o2).heap.size = _
  simp

theorem win_results (tmps : Array Value) (b : Nat) (C : Array Value) (hC : C.size = 21) {w : World} (ht : tmps.getD 2 undef = .pointer (some ⟨b, 0, none⟩)) (hr : w.rangeAt b 0 C.toList) :
    (results Yba.f5 tmps).run Yba.prog w = .ok (.agg C) w := by
  have h := run_loadVar_mid (P := Yba.prog) w b 0 43 C.toList _ hr Yba.underlying43 rfl (by rw [Array.length_toList, hC]; kernel_rfl)
  simp only [Array.toArray_toList] at h
  have ht' : tmps[2]?.getD undef = .pointer (some ⟨b, 0, none⟩) := by simpa using ht
  simp only [results, Yba.results5]
  simp [asAddr, ht', h]

/-- What the region of 'zzs5944bwin' keeps of the world besides cells. -/
structure WinS (w : World) (w' : World) : Prop where
  below : Below w.heap.size w w'
  size : w.heap.size + 2 ≤ w'.heap.size

def WinAll (w : World) (cs : Array Value) (w' : World) : Prop := (∀ o, w'.cell? ⟨w.heap.size, o, none⟩ = cs[o]?) ∧ w'.there (w.heap.size + 1) 0 21 ∧ WinS w w'

theorem WinAll.start (w : World) (cs zs : Array Value) (hz : zs.size = 21) : WinAll w cs ((w.alloc (.cells cs 46)).alloc (.cells zs 43)).drew := by
  have e : w.heap.size + 1 = (w.alloc (.cells cs 46)).heap.size := by simp
  refine ⟨fun o => ?_, fun j hj => ⟨?_, ?_⟩, ?_⟩
  · show World.cell? ((w.alloc (.cells cs 46)).alloc (.cells zs 43)) _ = _
    rw [World.cell?_alloc_lt _ _ _ (by simp)]
    simp [World.cell?_alloc_at]
  · show (World.cell? ((w.alloc (.cells cs 46)).alloc (.cells zs 43)) _).isSome = _
    rw [e, World.cell?_alloc_at _ _ _ _ rfl]
    simp [hz, hj]
  · show World.frozen? ((w.alloc (.cells cs 46)).alloc (.cells zs 43)) _ = _
    rw [e]
    simp
  · exact ⟨(((Below.refl _ _).alloc (Nat.le_refl _) _).alloc (by simp) _).drew, by show _ ≤ ((w.alloc (.cells cs 46)).alloc (.cells zs 43)).heap.size; simp⟩

theorem WinAll.call {w w1 w2 : World} {cs : Array Value} (h : WinAll w cs w1) (hb : Below w1.heap.size w1 w2) : WinAll w cs w2 := by
  have hz := h.2.2.size
  refine ⟨fun o => by rw [hb.cell (by show _ < _; simp only; omega)]; exact h.1 o, fun j hj => ?_, h.2.2.below.trans (hb.mono (by omega)), Nat.le_trans hz hb.size⟩
  rw [hb.cell (by show _ < _; simp only; omega), hb.frozen (by show _ < _; simp only; omega)]
  exact h.2.1 j hj

theorem WinAll.setCells {w w1 : World} {cs : Array Value} (h : WinAll w cs w1) (vs : List Value) : WinAll w cs (w1.setCells (w.heap.size + 1) 0 vs) := by
  refine ⟨fun o' => by rw [World.cell?_setCells_out _ _ _ _ _ (fun e => by simp at e)]; exact h.1 o', fun j hj => ?_, below_setCells _ (by omega) _ _ _ h.2.2.below, by rw [size_setCells]; exact h.2.2.size⟩
  have := h.2.1 j hj
  exact ⟨World.isSome_setCells _ _ _ _ _ this.1, by rw [World.frozen?_setCells]; exact this.2⟩

theorem WinAll.quiet {w w1 : World} {cs : Array Value} (h : WinAll w cs w1) : WinAll w cs w1 := h

set_option maxHeartbeats 2000000 in
theorem win_walk (fund id side gb ofv cin group cause : ByteArray) (a : Option Addr) (l c : Nat) (floor : Bool) (cd seen dead st : Int) (ss : List ByteArray) (lo : Nat) (w : World)
    (hss : ss.length * 16 ≤ 140737488351232) (hsel : SelF w lo (.slice a l c) ss)
    (s0 : -9223372036854775808 ≤ seen) (s1 : seen ≤ 9223372036854775807) (d0 : -9223372036854775808 ≤ dead) (d1 : dead ≤ 9223372036854775807) (t0 : 0 ≤ st) (t1 : st ≤ 255) :
    Calls Yba.prog 5 #[.agg #[.string fund, .string id, .slice a l c, .string side, .string gb, .string ofv, .bool floor, .int .i64 cd, .string cin, .string group, .int .i64 seen, .string cause, .int .i64 dead, .int .u8 st]] w fun e w' =>
      ∃ a' l' c', e = .returned (.agg #[.string fund, .string id, .slice a' l' c', .string side, .string gb, .string ofv, .int .i64 0, .pointer none, .int .i64 0, .bool floor, .int .i64 cd, .string cin, .string group,
        .int .u64 (addW seen), .int .i64 (addE seen), .pointer none, .string cause, .int .u64 (addW dead), .int .i64 (addE dead), .pointer none, .string (statusOf st)]) ∧
      (Value.slice a' l' c' = .slice none 0 0 ↔ Value.slice a l c = .slice none 0 0) ∧ SelF w' w.heap.size (.slice a' l' c') ss ∧ Below w.heap.size w w' := by
  have HS : Hid (SelF w lo (.slice a l c) ss) := hsel
  clear hsel
  go_enter Yba.func5, Yba.ntmps5
  go_wp2
  go_region_held3 (fun w' => (∀ o, w'.cell? ⟨w.heap.size, o, none⟩ = (#[.string fund, .string id, .slice a l c, .string side, .string gb, .string ofv, .bool floor, .int .i64 cd, .string cin, .string group, .int .i64 seen, .string cause, .int .i64 dead, .int .u8 st] : Array Value)[o]?) ∧ w'.there (w.heap.size + 1) 0 21 ∧ WinS w w')
    (first | exact WinAll.start _ _ _ rfl | exact WinAll.call (by assumption) (by assumption) | exact WinAll.quiet (by assumption) | exact WinAll.setCells (by assumption) _)
    (first | (go_at_call 11; refine (clone_any _ ss _ lo hss (HS.out.below (WinAll.quiet (by assumption)).2.2.below)).mono ?_; rintro e w' ⟨a', l', c', rfl, hnil, hs', hb'⟩; have HN := Hid.mk hnil; have HS' := Hid.mk (hs'.lift (lo' := w.heap.size + 2) (Nat.le_of_eq (size_start w _ _).symm)); clear hnil hs') | (go_at_call 12; refine (add_any _ _ (by assumption) (by assumption)).mono ?_; rintro e w' ⟨rfl, hb'⟩; replace HS' := Hid.mk (HS'.out.below hb')) | (go_at_call 7; refine (status_any _ _ (by assumption) (by assumption)).mono ?_; rintro e w' ⟨rfl, rfl⟩; have HT := Hid.mk (WinAll.quiet (by assumption)).2.1; obtain ⟨C, hC⟩ : ∃ C : Array Value, #[.string fund, .string id, .slice a' l' c', .string side, .string gb, .string ofv, .int .i64 0, .pointer none, .int .i64 0, .bool floor, .int .i64 cd, .string cin, .string group, .int .u64 (addW seen), .int .i64 (addE seen), .pointer none, .string cause, .int .u64 (addW dead), .int .i64 (addE dead), .pointer none, .string (statusOf st)] = C := ⟨_, rfl⟩; have HC := Hid.mk hC; have hCs : C.size = 21 := (congrArg Array.size hC.symm).trans rfl; have hst := store_opq (P := Yba.prog) (w.heap.size + 1) 21 C hCs (by rw [← hC]; exact List.all_eq_true.1 rfl)))
  have HS2 := Hid.mk (HS'.out.setCells (w.heap.size + 1) 0 C.toList (by omega))
  have hws : WinS w (w'.setCells (w.heap.size + 1) 0 C.toList) := ‹_ ∧ _ ∧ WinS w (w'.setCells (w.heap.size + 1) 0 C.toList)›.2.2
  have hra := World.rangeAt_setCells_same w' (w.heap.size + 1) 0 C.toList (by simpa [hCs] using HT.out)
  clear hb' hst hC
  go_wp2
  refine bodyPost_ret (v := .agg C) (win_results _ _ C hCs rfl hra) rfl ⟨a', l', c', ?_, HN.out, HS2.out.lift (by omega), hws.below⟩
  rw [← HC.out]

end Go.Proofs.Ybulkdsbq
