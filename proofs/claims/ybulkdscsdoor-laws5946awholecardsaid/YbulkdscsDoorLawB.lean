import Derived.Test.YbulkdscsDoorLawA
namespace Go.Proofs.YbulkdscsDoor
open Go.RowKit
set_option maxRecDepth 100000
set_option maxHeartbeats 2000000

theorem law_long (r fl : Int) (ra ea sa : Option Addr) (rl rc el ec sl sc : Nat) (wait : Int) (o0 o1 o2 o3 op a0 a1 a2 a3 ap : Int) (tx : ByteArray) (np : Int) (w : World) (hb1 : (rl : Int) + el ≤ 9223372036854775807)
    (hl : (rl : Int) + el > 4096 ∨ (sl : Int) > 65536) :
    Calls Ybad.prog 3 #[.int .u32 r, .int .u8 fl, .slice ra rl rc, .slice ea el ec, .int .u64 wait, .agg #[.int .u8 o0, .int .u8 o1, .int .u8 o2, .int .u8 o3], .int .u16 op, .agg #[.int .u8 a0, .int .u8 a1, .int .u8 a2, .int .u8 a3], .int .u16 ap, .string tx, .slice sa sl sc, .int .u8 np] w
      fun e w' => e = .returned (.bool true) ∧ Below w.heap.size w w' := by
  by_cases h1 : (rl : Int) + el > 4096
  · clear hl
    go_enter Ybad.func3, Ybad.ntmps3
    go_upto_if 78 with fail
    go_wp2
    go_ret
    exact ⟨rfl, below_box2 w _ _⟩
  · have h2 : (sl : Int) > 65536 := hl.resolve_left h1
    clear hl
    go_enter Ybad.func3, Ybad.ntmps3
    go_upto_if 78 with fail
    go_wp2
    go_ret
    exact ⟨rfl, below_box2 w _ _⟩

theorem ret_slot (l : List Value) (h : Fr l [(24, .bool true)]) : l.toArray.getD 24 undef = .bool true := by
  have h1 := h.1
  have h2 : l.length = 452 := h.2
  simp only [List.getD_eq_getElem?_getD] at h1
  have h3 : 24 < l.length := by omega
  simp [h3] at h1
  simp [Array.getD, h3, h1]

theorem law_go (r fl : Int) (ra ea sa : Option Addr) (rl rc el ec sl sc : Nat) (wait : Int) (o0 o1 o2 o3 op a0 a1 a2 a3 ap : Int) (tx : ByteArray) (n : Nat) (w : World) (rs es ps : List Int) (z : Addr)
    (hlong1 : ¬ (rl : Int) + el > 4096) (hlong2 : ¬ (sl : Int) > 65536) (hR : RowIs .u32 w (.slice ra rl rc) rs) (hE : RowIs .u32 w (.slice ea el ec) es) (hP : RowIs .u16 w (.slice sa sl sc) ps) (hz : w.cell? ⟨0, 0, none⟩ = some (.pointer (some z))) (hn : n ≤ 255)
    (h0 : 0 ≤ o0 ∧ o0 ≤ 255) (h1 : 0 ≤ o1 ∧ o1 ≤ 255) (h2 : 0 ≤ o2 ∧ o2 ≤ 255) (h3 : 0 ≤ o3 ∧ o3 ≤ 255) (k0 : 0 ≤ a0 ∧ a0 ≤ 255) (k1 : 0 ≤ a1 ∧ a1 ≤ 255) (k2 : 0 ≤ a2 ∧ a2 ≤ 255) (k3 : 0 ≤ a3 ∧ a3 ≤ 255) :
    Calls Ybad.prog 3 #[.int .u32 r, .int .u8 fl, .slice ra rl rc, .slice ea el ec, .int .u64 wait, .agg #[.int .u8 o0, .int .u8 o1, .int .u8 o2, .int .u8 o3], .int .u16 op, .agg #[.int .u8 a0, .int .u8 a1, .int .u8 a2, .int .u8 a3], .int .u16 ap, .string tx, .slice sa sl sc, .int .u8 n] w fun e w' => e = .returned (.bool true) ∧ Below w.heap.size w w' := by
  go_enter Ybad.func3, Ybad.ntmps3
  refine front _ r fl ra ea sa rl rc el ec sl sc wait o0 o1 o2 o3 op a0 a1 a2 a3 ap tx n w rs es ps z _ ⟨rfl, rfl, rfl, rfl, rfl, rfl, rfl, rfl, rfl, rfl, rfl, rfl, rfl⟩ hlong1 hlong2 hR hE hP hz hn h0 h1 h2 h3 k0 k1 k2 k3 ?_
  intro q tg l' w' hqr hp hr hg hB t1 t2 t3 hf
  have hfin : ∀ l3 w3, Fr l3 [(24, .bool true)] → Below w.heap.size w' w3 → bodyPost Ybad.prog Ybad.f3 (fun e w'' => e = .returned (.bool true) ∧ Below w.heap.size w w'') .ret ⟨l3.toArray, []⟩ w3 := by
    intro l3 w3 h3 hb3
    refine bodyPost_ret (results_tmp rfl _ _ _) rfl ⟨?_, hB.trans hb3⟩
    rw [ret_slot l3 h3]
  by_cases hk : q.i.r ∈ q.K
  · rw [t1 hk] at hf
    cases hov : q.i.ov with
    | true => exact back_over q hp l' w' hr _ hk hov hf fun l3 w3 h3 hb3 => hfin l3 w3 h3 (hb3.mono hB.size)
    | false => exact back_l q hp l' w' hr _ hk hov w.heap.size hg hf hfin
  · by_cases hd : q.i.r ∈ q.D
    · rw [t2 hk hd] at hf
      exact back_d q hp l' w' hr _ hd w.heap.size hg hf hfin
    · have hnm : q.i.r ∉ q.K ++ q.D := fun h => (List.mem_append.1 h).elim hk hd
      rw [t3 hnm] at hf
      exact back_none q hp l' w' hr _ hnm hf fun l3 w3 h3 hb3 => hfin l3 w3 h3 (hb3.mono hB.size)

/-- The law at every input. -/
theorem law_any (r fl : Int) (ra ea sa : Option Addr) (rl rc el ec sl sc : Nat) (wait : Int) (o0 o1 o2 o3 op a0 a1 a2 a3 ap : Int) (tx : ByteArray) (n : Nat) (w : World) (rs es ps : List Int) (z : Addr)
    (hb1 : (rl : Int) + el ≤ 9223372036854775807) (hR : RowIs .u32 w (.slice ra rl rc) rs) (hE : RowIs .u32 w (.slice ea el ec) es) (hP : RowIs .u16 w (.slice sa sl sc) ps) (hz : w.cell? ⟨0, 0, none⟩ = some (.pointer (some z))) (hn : n ≤ 255)
    (h0 : 0 ≤ o0 ∧ o0 ≤ 255) (h1 : 0 ≤ o1 ∧ o1 ≤ 255) (h2 : 0 ≤ o2 ∧ o2 ≤ 255) (h3 : 0 ≤ o3 ∧ o3 ≤ 255) (k0 : 0 ≤ a0 ∧ a0 ≤ 255) (k1 : 0 ≤ a1 ∧ a1 ≤ 255) (k2 : 0 ≤ a2 ∧ a2 ≤ 255) (k3 : 0 ≤ a3 ∧ a3 ≤ 255) :
    Calls Ybad.prog 3 #[.int .u32 r, .int .u8 fl, .slice ra rl rc, .slice ea el ec, .int .u64 wait, .agg #[.int .u8 o0, .int .u8 o1, .int .u8 o2, .int .u8 o3], .int .u16 op, .agg #[.int .u8 a0, .int .u8 a1, .int .u8 a2, .int .u8 a3], .int .u16 ap, .string tx, .slice sa sl sc, .int .u8 n] w fun e w' => e = .returned (.bool true) ∧ Below w.heap.size w w' := by
  by_cases hl1 : (rl : Int) + el > 4096
  · exact law_long r fl ra ea sa rl rc el ec sl sc wait o0 o1 o2 o3 op a0 a1 a2 a3 ap tx n w hb1 (.inl hl1)
  · by_cases hl2 : (sl : Int) > 65536
    · exact law_long r fl ra ea sa rl rc el ec sl sc wait o0 o1 o2 o3 op a0 a1 a2 a3 ap tx n w hb1 (.inr hl2)
    · exact law_go r fl ra ea sa rl rc el ec sl sc wait o0 o1 o2 o3 op a0 a1 a2 a3 ap tx n w rs es ps z hl1 hl2 hR hE hP hz hn h0 h1 h2 h3 k0 k1 k2 k3


end Go.Proofs.YbulkdscsDoor
