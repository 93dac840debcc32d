/-
  The law's walk where every argument is cured; where there is none; where there are too many.
-/
import Derived.Test.YbulkdsbqG
namespace Go.Proofs.Ybulkdsbq
open Go.RowKit

set_option maxRecDepth 100000 in
set_option maxHeartbeats 4000000 in
theorem law_none (A : List Ag) (n b o cap : Nat) (w : World) (hAn : A.length = n) (hn : n ≤ 65536) (hp : 0 < n) (hbw : b < w.heap.size) (hA : ∀ (j : Nat) (p : Ag), A[j]? = some p → w.rangeAt b (o + j * 14) (p.e.cells p.s)) (hG : ∀ p ∈ A, Good w p)
    (hcur : ∀ p ∈ A, curedA p = true) :
    Calls Yba.prog 3 #[.slice (some ⟨b, o, none⟩) n cap] w fun e w' => e = .returned (.bool true) ∧ Below w.heap.size w w' := by
  obtain ⟨i0, hi, hz0, hz1, hz2⟩ := info_parts Yba.info43
  have HN := Hid.mk hAn
  have HA := Hid.mk hA
  have HG := Hid.mk hG
  have HCu := Hid.mk hcur
  have HI : Hid (Yba.prog.info? 43 = some i0 ∧ i0.size = 21 ∧ i0.bytes = 256) := ⟨hi, hz1, hz2⟩
  have HZ := Hid.mk hz0
  clear hAn hA hG hcur hi hz0 hz1 hz2
  have hne : ((n : Int) == 0) = false := by simp; omega
  have hq := fun (w : World) (a : Option Addr) (l c : Nat) => Lib.run_eql_slice_nil (P := Yba.prog) w 22 46 a l c 0 0 Yba.underlying22
  go_enter Yba.func3, Yba.ntmps3
  go_wp2_with (at_make; refine wpList_make_full _ rfl (.tmp 13) (.tmp 13) 23 rfl w.heap.size 43 i0 _ 21 Yba.underlying23 HI.out.1 HZ.out HI.out.2.1 .i64 .i64 _ _ n rfl rfl rfl rfl (by rw [HI.out.2.2]; omega) (by unfold maxLen; omega) (Nat.le_refl _) ?_)
  intro w0 hown hgrow
  have hM : Hid (Made w w.heap.size A [] w0) := by
    have h := HN.out
    subst h
    exact Made.start hown hgrow
  clear hown hgrow
  go_wp2
  go_loopw [4] (fun i wr => ∃ (k : Nat) (S : List Sl), k ≤ n ∧ S.length = k ∧ i = .int .i64 k ∧ Made w w.heap.size A S wr)
    (fun i _ => n - (intOf i).toNat)
  case atStart => exact ⟨0, [], Nat.zero_le _, rfl, rfl, hM.out⟩
  case round =>
    obtain ⟨k, S, hk, hS, rfl, hMd⟩ := hrel
    have HS := Hid.mk hS
    clear hM hS
    by_cases hlt : k < n
    · obtain ⟨p, hpk⟩ : ∃ p, A[k]? = some p := ⟨A[k]'(by rw [HN.out]; exact hlt), List.getElem?_eq_getElem _⟩
      have hg := HG.out p (List.mem_of_getElem? hpk)
      have s0 := hg.seen0
      have s1 := hg.seen1
      have d0 := hg.dead0
      have d1 := hg.dead1
      have t0 := hg.st0
      have t1 := hg.st1
      have hln := hg.len
      have HSel := Hid.mk (hg.sel.below hMd.below)
      have hra : wr.rangeAt b (o + k * 14) [.string p.e.fund, .string p.e.id, .slice p.s.a p.s.l p.s.c, .string p.e.side, .string p.e.gb, .string p.e.ofv, .bool p.e.floor, .int .i64 p.e.cd, .string p.e.cin, .string p.e.group, .int .i64 p.e.seen, .string p.e.cause, .int .i64 p.e.dead, .int .u8 p.e.st] := rangeAt_below (HA.out k p hpk) hMd.below
      have HP := Hid.mk hpk
      have HM := Hid.mk hMd
      have hGs := hMd.size
      clear hpk hg hMd
      go_wp2_with (first | (refine wpList_load_mid rfl 46 _ rfl b (o + k * 14) rfl [.string p.e.fund, .string p.e.id, .slice p.s.a p.s.l p.s.c, .string p.e.side, .string p.e.gb, .string p.e.ofv, .bool p.e.floor, .int .i64 p.e.cd, .string p.e.cin, .string p.e.group, .int .i64 p.e.seen, .string p.e.cause, .int .i64 p.e.dead, .int .u8 p.e.st] _ hra Yba.underlying46 rfl Yba.size46 ?_))
      refine (win_walk _ _ _ _ _ _ _ _ _ _ _ _ _ _ _ _ p.ss 0 _ hln HSel.out s0 s1 d0 d1 t0 t1).mono ?_
      rintro e w1 ⟨a', l', c', rfl, hnl, hsl, hb1⟩
      have HM2 := Hid.mk (Made.step (s := ⟨a', l', c'⟩) HM.out (by rw [HS.out]; exact HP.out) (Nat.le_refl _) hb1 hsl (isNone_of HSel.out hsl hnl))
      have hth : w1.there w.heap.size (k * 21) 21 := there_sub (there_below HM.out.there hb1 hGs) (by rw [HN.out]; omega)
      clear hnl hsl hb1
      obtain ⟨C, hC⟩ : ∃ C : Array Value, #[.string p.e.fund, .string p.e.id, .slice a' l' c', .string p.e.side, .string p.e.gb, .string p.e.ofv, .int .i64 0, .pointer none, .int .i64 0, .bool p.e.floor, .int .i64 p.e.cd, .string p.e.cin, .string p.e.group, .int .u64 (addW p.e.seen), .int .i64 (addE p.e.seen), .pointer none, .string p.e.cause, .int .u64 (addW p.e.dead), .int .i64 (addE p.e.dead), .pointer none, .string (statusOf p.e.st)] = C := ⟨_, rfl⟩
      have hCs : C.size = 21 := (congrArg Array.size hC.symm).trans rfl
      have hst := store_opq' (P := Yba.prog) w.heap.size (k * 21) 21 C hCs (by rw [← hC]; exact List.all_eq_true.1 rfl) w1 hth
      have HC2 : Hid (p.e.win ⟨a', l', c'⟩ = C.toList) := by rw [← hC]; rfl
      clear hth
      go_wp2
      rw [← HC2.out]
      go_roundw
      case rel => exact ⟨k + 1, S ++ [⟨a', l', c'⟩], by omega, by simp [HS.out], by go_num, by rw [← HS.out]; exact HM2.out⟩
      case measure => simp [intOf]; omega
    · have hkn : k = n := by omega
      go_wp2_with fail
      have hSA : S.length = A.length := by rw [HS.out, HN.out]; omega
      refine (carried_none (pairs A S) n w.heap.size wr (by rw [pairs_length hSA]; exact HN.out) (kept_nil HCu.out) hn (hMd.rows hSA)).mono ?_
      rintro e w2 ⟨rfl, hb2⟩
      have HM2 := Hid.mk (hMd.later hb2)
      have HSA := Hid.mk hSA
      have hbw2 : b < w2.heap.size := by have := hMd.below.size; have := hb2.size; omega
      clear hMd hb2 hSA
      go_wp2
      go_loopw [6, 7] (fun kk ii wq => ∃ i : Nat, i ≤ n ∧ ii = .int .i64 i ∧ kk = .int .i64 0 ∧ Below w2.heap.size w2 wq)
        (fun _ ii _ => n - (intOf ii).toNat)
      case atStart => exact ⟨0, Nat.zero_le _, rfl, rfl, Below.refl _ _⟩
      case round =>
        obtain ⟨i, hin, rfl, rfl, hbq⟩ := hrel
        by_cases hlt : i < n
        · obtain ⟨p, hpk⟩ : ∃ p, A[i]? = some p := ⟨A[i]'(by rw [HN.out]; exact hlt), List.getElem?_eq_getElem _⟩
          obtain ⟨s, hsk⟩ : ∃ s, S[i]? = some s := ⟨S[i]'(by rw [HSA.out, HN.out]; exact hlt), List.getElem?_eq_getElem _⟩
          have hg := HG.out p (List.mem_of_getElem? hpk)
          have t0 := hg.st0
          have t1 := hg.st1
          have hMq := HM2.out.later hbq
          have hc13 : wr.cell? ⟨b, o + i * 14 + 13, none⟩ = some (.int .u8 p.e.st) := (rangeAt_below (HA.out i p hpk) hMq.below) 13 _ rfl
          have hq3 := cured_true (p := (p.e, s)) (by simpa [cured, curedA] using HCu.out p (List.mem_of_getElem? hpk))
          clear hpk hsk hg hMq
          go_wp2_with (go_at_call 7; refine (status_any2 _ _ t0 t1).mono ?_; rintro e w' ⟨rfl, rfl⟩)
          go_roundw
          case rel => exact ⟨i + 1, by omega, by go_num, rfl, hbq⟩
          case measure => simp [intOf]; omega
        · have hnq := fun (w : World) (a : Option Addr) (l c : Nat) => run_neq_slice_nil_any (P := Yba.prog) w 47 52 a l c 0 0 Yba.underlying47
          go_wp2
          go_loopw [8] (fun ii wq => ∃ i : Nat, i ≤ n ∧ ii = .int .i64 i ∧ Below w2.heap.size w2 wq)
            (fun ii _ => n - (intOf ii).toNat)
          case atStart => exact ⟨0, Nat.zero_le _, rfl, hbq⟩
          case round =>
            clear hbq hnq
            obtain ⟨i3, hin3, rfl, hbq⟩ := hrel
            by_cases hlt3 : i3 < n
            · obtain ⟨p, hpk⟩ : ∃ p, A[i3]? = some p := ⟨A[i3]'(by rw [HN.out]; exact hlt3), List.getElem?_eq_getElem _⟩
              obtain ⟨s, hsk⟩ : ∃ s, S[i3]? = some s := ⟨S[i3]'(by rw [HSA.out, HN.out]; exact hlt3), List.getElem?_eq_getElem _⟩
              have hg := HG.out p (List.mem_of_getElem? hpk)
              have hMq := HM2.out.later hbq
              have HGq := Hid.mk (hg.below hMq.below)
              have HSs := Hid.mk (hMq.sel i3 p s hpk hsk)
              have HRa := Hid.mk (rangeAt_below (HA.out i3 p hpk) hMq.below)
              have HRw := Hid.mk (hMq.row i3 p s hpk hsk)
              clear hpk hsk hg hMq
              go_wp2
              refine region28 _ _ wr _ rfl w.heap.size b o n cap i3 _ p s rfl rfl rfl hlt3 HRw.out HRa.out HGq.out HSs.out.1 HSs.out.2 ?_
              intro w' s' hbx
              simp only [Act.put, List.setIfInBounds_toArray, List.set_cons_zero, List.set_cons_succ]
              go_wp2
              go_roundw
              case rel => exact ⟨i3 + 1, by omega, by go_num, hbq.trans (hbx.mono hbq.size)⟩
              case measure => simp [intOf]; omega
            · go_wp2
              go_ret
              exact ⟨rfl, (HM2.out.later hbq).below⟩

set_option maxHeartbeats 400000 in
theorem carried_empty (y : Option Addr) (c : Nat) (w : World) : Calls Yba.prog 6 #[.slice y 0 c] w fun e w' => e = .returned (.slice none 0 0) ∧ w = w' := by
  go_enter Yba.func6, Yba.ntmps6
  go_wp2
  refine wp_loop_rounds 1 ?_
  rw [rounds_succ]
  go_wp2
  go_ret
  exact ⟨rfl, rfl⟩

set_option maxRecDepth 100000 in
set_option maxHeartbeats 1000000 in
theorem law_empty (x : Option Addr) (cap : Nat) (w : World) :
    Calls Yba.prog 3 #[.slice x 0 cap] w fun e w' => e = .returned (.bool true) ∧ Below w.heap.size w w' := by
  obtain ⟨i0, hi, hz0, hz1, hz2⟩ := info_parts Yba.info43
  have HI : Hid (Yba.prog.info? 43 = some i0 ∧ i0.size = 21 ∧ i0.bytes = 256) := ⟨hi, hz1, hz2⟩
  have HZ := Hid.mk hz0
  clear hi hz0 hz1 hz2
  have hq := fun (w : World) (a : Option Addr) (l c : Nat) => Lib.run_eql_slice_nil (P := Yba.prog) w 22 46 a l c 0 0 Yba.underlying22
  have hnq := fun (w : World) (a : Option Addr) (l c : Nat) => run_neq_slice_nil_any (P := Yba.prog) w 47 52 a l c 0 0 Yba.underlying47
  go_enter Yba.func3, Yba.ntmps3
  go_wp2_with (at_make; refine wpList_make_full _ rfl (.tmp 13) (.tmp 13) 23 rfl w.heap.size 43 i0 _ 21 Yba.underlying23 HI.out.1 HZ.out HI.out.2.1 .i64 .i64 _ _ 0 rfl rfl rfl rfl (by rw [HI.out.2.2]; omega) (by unfold maxLen; omega) (Nat.le_refl _) ?_)
  intro w0 hown hgrow
  have hB : Below w.heap.size w w0 := (Below.refl _ _).grown hgrow (Nat.le_refl _) (by simp)
  clear hown hgrow
  go_wp2
  refine wp_loop_rounds 1 ?_
  rw [rounds_succ]
  cases x with
  | none =>
    go_wp2_with (go_at_call 6; refine (carried_empty _ _ _).mono ?_; rintro e w' ⟨rfl, rfl⟩)
    refine wp_loop_rounds 1 ?_
    rw [rounds_succ]
    go_wp2
    refine wp_loop_rounds 1 ?_
    rw [rounds_succ]
    go_wp2
    go_ret
    exact ⟨rfl, hB⟩
  | some x =>
    go_wp2_with (go_at_call 6; refine (carried_empty _ _ _).mono ?_; rintro e w' ⟨rfl, rfl⟩)
    refine wp_loop_rounds 1 ?_
    rw [rounds_succ]
    go_wp2
    refine wp_loop_rounds 1 ?_
    rw [rounds_succ]
    go_wp2
    go_ret
    exact ⟨rfl, hB⟩

set_option maxHeartbeats 400000 in
theorem law_big (x : Option Addr) (n cap : Nat) (w : World) (hn : 65536 < n) :
    Calls Yba.prog 3 #[.slice x n cap] w fun e w' => e = .returned (.bool true) ∧ Below w.heap.size w w' := by
  go_enter Yba.func3, Yba.ntmps3
  go_wp2
  go_ret
  exact ⟨rfl, Below.refl _ _⟩

theorem law_any (A : List Ag) (n b o cap : Nat) (w : World) (hAn : A.length = n) (hp : 0 < n) (hbw : b < w.heap.size) (hA : ∀ (j : Nat) (p : Ag), A[j]? = some p → w.rangeAt b (o + j * 14) (p.e.cells p.s)) (hG : ∀ p ∈ A, Good w p) :
    Calls Yba.prog 3 #[.slice (some ⟨b, o, none⟩) n cap] w fun e w' => e = .returned (.bool true) ∧ Below w.heap.size w w' := by
  by_cases hn : n ≤ 65536
  · by_cases hc : ∃ p ∈ A, curedA p = false
    · exact law_some A n b o cap w hAn hn hp hbw hA hG hc
    · refine law_none A n b o cap w hAn hn hp hbw hA hG (fun p hpA => ?_)
      cases h : curedA p with
      | true => rfl
      | false => exact absurd ⟨p, hpA, h⟩ hc
  · exact law_big _ n cap w (by omega)

end Go.Proofs.Ybulkdsbq
