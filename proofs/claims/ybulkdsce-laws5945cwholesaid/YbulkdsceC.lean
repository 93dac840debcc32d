/-
  LawS5945CWhole (3): the walk.
-/
import Derived.Test.YbulkdsceB
import Derived.Deep.DeepCutAuto
namespace Go.Proofs.Ybulkdsce
open Go.RowKit

set_option maxRecDepth 100000 in
set_option maxHeartbeats 1000000 in
theorem law_walk (a0 : Option Addr) (len0 cap0 : Nat) (z0 : List Int) (a1 : Option Addr) (len1 cap1 : Nat) (z1 : List Int) (i j : Int) (w : World) (w0 : IsRow .u64 w a0 len0 cap0 z0) (w1 : IsRow .u64 w a1 len1 cap1 z1)
    (i0 : 0 ≤ i) (j0 : 0 ≤ j) (hl0 : len0 ≤ 1048576) (hl1 : len1 ≤ 1048576) (n : Nat) (hn : n = if len0 = 0 ∧ len1 = 0 then 1 else max len0 len1) :
    Calls Yba.prog 3 #[.slice a0 len0 cap0, .slice a1 len1 cap1, .int .u64 i, .int .u64 j] w fun e w' => e = .returned (.bool true) ∧ Below w.heap.size w w' := by
  have W0 := Hid.mk w0
  have W1 := Hid.mk w1
  have HNN := Hid.mk hn
  have hn0 : 0 < n := by rw [hn]; split <;> omega
  have hn1 : n ≤ 1048576 := by rw [hn]; split <;> omega
  clear w0 w1 hn
  have c0 : ¬ (1048576 : Int) < (len0 : Int) := by omega
  have c1 : ¬ (1048576 : Int) < (len1 : Int) := by omega
  go_enter Yba.func3, Yba.ntmps3
  go_upto_if 36 with fail
  go_cut [9] (fun s9 wx => s9 = .int .i64 (max len0 len1 : Nat) ∧ w = wx)
  case first =>
    by_cases h : (len0 : Int) < (len1 : Int)
    · go_wp2
      go_meet
      case rel => exact ⟨by rw [Nat.max_eq_right (by omega)], rfl⟩
    · go_wp2
      go_meet
      case rel => exact ⟨by rw [Nat.max_eq_left (by omega)], rfl⟩
  case rest =>
    obtain ⟨rfl, rfl⟩ := hcut
    obtain ⟨m, hm⟩ : ∃ m, max len0 len1 = m := ⟨_, rfl⟩
    rw [hm]
    have HM := Hid.mk hm
    clear hm
    go_upto_if 40 with fail
    go_cut [9] (fun s9 wx => s9 = .int .i64 n ∧ w = wx)
    case first =>
      by_cases h : m = 0
      · go_wp2
        go_meet
        case rel => exact ⟨by rw [HNN.out, if_pos (by have := HM.out; omega)]; rfl, rfl⟩
      · go_wp2
        go_meet
        case rel => exact ⟨by rw [HNN.out, if_neg (by have := HM.out; omega), HM.out], rfl⟩
    case rest =>
      obtain ⟨rfl, rfl⟩ := hcut
      obtain ⟨z26, hi, hz0, hz1, hz2⟩ := info_parts Yba.info26
      have HI : Hid (Yba.prog.info? 26 = some z26 ∧ z26.zero = some (.pointer none) ∧ z26.size = 1 ∧ z26.bytes = 8) := ⟨hi, hz0, hz1, hz2⟩
      clear hi hz0 hz1 hz2 HM
      go_wp2_with (at_make; refine wpList_make_full _ rfl (.tmp 41) (.tmp 41) 25 rfl w.heap.size 26 z26 _ 1 Yba.underlying25 HI.out.1 HI.out.2.1 HI.out.2.2.1 .i64 .i64 _ _ n rfl rfl rfl rfl (by rw [HI.out.2.2.2]; omega) (by unfold maxLen; omega) (Nat.le_refl _) ?_)
      intro wm hown hgrow
      have HM := Hid.mk (Made.start (zr := rowAt z0 len0) (zk := rowAt z1 len1) hown hgrow)
      clear hown hgrow
      go_wp2
      go_loopw [11] (fun kk wr => ∃ (k : Nat) (S : List Nat), k ≤ n ∧ S.length = k ∧ kk = .int .i64 k ∧ Made w w.heap.size n (rowAt z0 len0) (rowAt z1 len1) S wr)
        (fun kk _ => n - (intOf kk).toNat)
      case atStart => exact ⟨0, [], Nat.zero_le _, rfl, rfl, HM.out⟩
      case round =>
        clear HM
        obtain ⟨k, S, hk, hS, rfl, hMd⟩ := hrel
        have HS := Hid.mk hS
        have HMd := Hid.mk hMd
        clear hS hMd
        by_cases hlt : k < n
        · have R0 := Hid.mk (W0.out.below HMd.out.below)
          have R1 := Hid.mk (W1.out.below HMd.out.below)
          obtain ⟨⟨v, hv⟩, hfz⟩ := HMd.out.cellAt hlt
          have hGs := HMd.out.size
          go_wp2_with fail
          refine (cat_any _ _ _ z0 k _ R0.out).mono ?_
          rintro e wx ⟨rfl, rfl⟩
          go_wp2_with fail
          refine (cat_any _ _ _ z1 k _ R1.out).mono ?_
          rintro e wx ⟨rfl, rfl⟩
          have HM2 := made_step HMd.out HS.out hlt (Nat.le_refl _)
          obtain ⟨r0, hr0⟩ : ∃ r, rowAt z0 len0 k = r := ⟨_, rfl⟩
          obtain ⟨r1, hr1⟩ : ∃ r, rowAt z1 len1 k = r := ⟨_, rfl⟩
          rw [hr0, hr1] at HM2
          have HM3 := Hid.mk HM2
          clear HM2
          go_wp2
          go_roundw
          case rel => exact ⟨k + 1, S ++ [wr.heap.size], by omega, by simp [HS.out], by go_num, HM3.out⟩
          case measure => simp [intOf]; omega
        · have hkn : k = n := by omega
          have hGs := HMd.out.size
          have HSn : Hid (S.length = n) := by rw [HS.out, hkn]; rfl
          clear HS hkn
          go_wp2_with (first | (at_make; refine wpList_make_full _ rfl (.tmp 61) (.tmp 61) 24 rfl wr.heap.size 26 z26 _ 1 Yba.underlying24 HI.out.1 HI.out.2.1 HI.out.2.2.1 .i64 .i64 _ _ n rfl rfl rfl rfl (by rw [HI.out.2.2.2]; omega) (by unfold maxLen; omega) (Nat.le_refl _) ?_))
          intro wk hown hgrow
          obtain ⟨cur, hcur, hcs, hbk⟩ := made_row hown hgrow
          have HMk := Hid.mk (HMd.out.later hbk)
          have HH := Hid.mk (held_copy HMd.out hbk hcur hcs HSn.out)
          clear hown hgrow hbk HMd
          obtain ⟨a, hwa, han⟩ := mod_nat i n hn0 hn1
          obtain ⟨b, hwb, hbn⟩ := mod_nat j n hn0 hn1
          obtain ⟨ba, hba⟩ : ∃ x, S[a]? = some x := ⟨S[a]'(by rw [HSn.out]; exact han), List.getElem?_eq_getElem _⟩
          obtain ⟨bb, hbb⟩ : ∃ x, S[b]? = some x := ⟨S[b]'(by rw [HSn.out]; exact hbn), List.getElem?_eq_getElem _⟩
          have HBA := Hid.mk hba
          have HBB := Hid.mk hbb
          clear hba hbb
          go_wp2_with (refine wpList_copy_own rfl (.tmp 63) (.tmp 64) 24 25 rfl 26 Yba.underlying24 Yba.size26 wr.heap.size 0 n n ⟨w.heap.size, 0, none⟩ n n rfl rfl cur 26 hcur (ptrs S) ?c1 ?c2 ?c3 ?c4 ?_)
          case c1 => simp [ptrs, HSn.out]
          case c2 => exact HMk.out.ptrs_at
          case c3 => simp [ptrs, HSn.out, hcs]
          case c4 => exact ptrs_one S
          clear hcur hcs HMk
          generalize (wk.setRow wr.heap.size (ptrs S ++ List.drop (ptrs S).length cur.toList).toArray) = wz at HH ⊢
          refine (less_any w.heap.size n n a b ba bb (rowAt z0 len0 a) (rowAt z1 len1 a) (rowAt z0 len0 b) (rowAt z1 len1 b) wz han hbn (HH.out.tcell a ba HBA.out) (HH.out.tcell b bb HBB.out)
            ((HH.out.src a ba HBA.out) 11 _ rfl) ((HH.out.src b bb HBB.out) 11 _ rfl) ((HH.out.src a ba HBA.out) 10 _ rfl) ((HH.out.src b bb HBB.out) 10 _ rfl)).mono ?_
          rintro e wd ⟨rfl, q, rfl⟩
          have R0 := Hid.mk (W0.out.below (HH.out.drewN q).below)
          have R1 := Hid.mk (W1.out.below (HH.out.drewN q).below)
          go_wp2_with fail
          refine (cat_any _ _ _ z0 a _ R0.out).mono ?_
          rintro e wx ⟨rfl, rfl⟩
          go_wp2_with fail
          refine (cat_any _ _ _ z0 b _ R0.out).mono ?_
          rintro e wx ⟨rfl, rfl⟩
          go_wp2_with fail
          refine (cat_any _ _ _ z1 a _ R1.out).mono ?_
          rintro e wx ⟨rfl, rfl⟩
          go_wp2_with fail
          refine (cat_any _ _ _ z1 b _ R1.out).mono ?_
          rintro e wx ⟨rfl, rfl⟩
          go_upto_if 94 with fail
          obtain ⟨L, hL⟩ : ∃ L, lessB (rowAt z0 len0 a) (rowAt z1 len1 a) (rowAt z0 len0 b) (rowAt z1 len1 b) = L := ⟨_, rfl⟩
          rw [hL]
          obtain ⟨ra, hra⟩ : ∃ x, rowAt z0 len0 a = x := ⟨_, rfl⟩
          obtain ⟨rb, hrb⟩ : ∃ x, rowAt z0 len0 b = x := ⟨_, rfl⟩
          obtain ⟨ka, hka⟩ : ∃ x, rowAt z1 len1 a = x := ⟨_, rfl⟩
          obtain ⟨kb, hkb⟩ : ∃ x, rowAt z1 len1 b = x := ⟨_, rfl⟩
          rw [hra, hrb, hka, hkb] at hL ⊢
          have HL := Hid.mk hL
          clear hL hra hrb hka hkb
          go_cut [20] (fun s20 wx => s20 = .bool L ∧ wz.drewN q = wx)
          case first =>
            clear hwa hwb
            rcases Int.lt_trichotomy ra rb with h | h | h
            · go_wp2
              go_meet
              case rel => exact ⟨by rw [← HL.out, less_lt h], rfl⟩
            · subst h
              by_cases hk2 : ka < kb
              · go_wp2
                go_meet
                case rel => exact ⟨by rw [← HL.out, less_same]; simp [hk2], rfl⟩
              · go_wp2
                go_meet
                case rel => exact ⟨by rw [← HL.out, less_same]; simp [hk2], rfl⟩
            · have h1 : ¬ ra < rb := by omega
              have h2 : (ra == rb) = false := by simp; omega
              go_wp2
              go_meet
              case rel => exact ⟨by rw [← HL.out, less_gt h], rfl⟩
          case rest =>
            obtain ⟨rfl, rfl⟩ := hcut
            have HHq := Hid.mk (HH.out.drewN q)
            clear hwa hwb HH R0 R1 HL
            obtain ⟨wo, rfl⟩ : ∃ wo : World, wo = wr := ⟨_, rfl⟩
            go_wp2
            go_loopw [21, 22] (fun kk s22 wq => ∃ k : Nat, k ≤ n ∧ kk = .int .i64 k ∧ Held w w.heap.size wo.heap.size (rowAt z0 len0) (rowAt z1 len1) S wq)
              (fun kk _ _ => n - (intOf kk).toNat)
            case atStart => exact ⟨0, Nat.zero_le _, rfl, HHq.out⟩
            case round =>
              clear HHq
              obtain ⟨k3, hk3, rfl, hH⟩ := hrel
              have HH := Hid.mk hH
              clear hH
              by_cases hlt : k3 < n
              · obtain ⟨bk, hbk⟩ : ∃ x, S[k3]? = some x := ⟨S[k3]'(by rw [HSn.out]; exact hlt), List.getElem?_eq_getElem _⟩
                have t1 := HH.out.tcell k3 bk hbk
                have t2 := HH.out.kcell k3 bk hbk
                have hs := HH.out.src k3 bk hbk
                have s0 : wr.cell? ⟨bk, 0, none⟩ = some (.int .u8 0) := hs 0 _ rfl
                have s1 : wr.cell? ⟨bk, 1, none⟩ = some (.int .i64 0) := hs 1 _ rfl
                have s8 : wr.cell? ⟨bk, 8, none⟩ = some .nilIface := hs 8 _ rfl
                have s9 : wr.cell? ⟨bk, 9, none⟩ = some (.slice none 0 0) := hs 9 _ rfl
                have s10 : wr.cell? ⟨bk, 10, none⟩ = some (.int .u64 (rowAt z1 len1 k3)) := hs 10 _ rfl
                have s11 : wr.cell? ⟨bk, 11, none⟩ = some (.int .u64 (rowAt z0 len0 k3)) := hs 11 _ rfl
                have s12 : wr.cell? ⟨bk, 12, none⟩ = some (.int .i64 (k3 + 1)) := hs 12 _ rfl
                have R0 := Hid.mk (fun q => (W0.out.below (HH.out.drewN q).below))
                have R1 := Hid.mk (fun q => (W1.out.below (HH.out.drewN q).below))
                have hnq := fun (w : World) (a : Option Addr) (l c : Nat) => run_neq_slice_nil_any (P := Yba.prog) w 36 78 a l c 0 0 Yba.underlying36
                have hni := neq_nil35
                have hps := neq_ptr_same
                clear hbk hs
                go_wp2
                go_quiet (first | (go_at_call 4; exact Calls.quiet_of_same (cat_same _ _ _ z0 k3 _ (R0.out _))) | (go_at_call 4; exact Calls.quiet_of_same (cat_same _ _ _ z1 k3 _ (R1.out _))))
                go_wp2
                go_roundw
                case rel => exact ⟨k3 + 1, by omega, by go_num, HH.out.drewN _⟩
                case measure => simp [intOf]; omega
              · go_wp2
                go_ret
                exact ⟨rfl, HH.out.below⟩

set_option maxRecDepth 100000 in
set_option maxHeartbeats 400000 in
theorem law_big0 (a0 : Option Addr) (len0 cap0 : Nat) (a1 : Option Addr) (len1 cap1 : Nat) (i j : Int) (w : World) (h : 1048576 < len0) :
    Calls Yba.prog 3 #[.slice a0 len0 cap0, .slice a1 len1 cap1, .int .u64 i, .int .u64 j] w fun e w' => e = .returned (.bool true) ∧ Below w.heap.size w w' := by
  go_enter Yba.func3, Yba.ntmps3
  go_wp2
  go_ret
  exact ⟨rfl, Below.refl _ _⟩

set_option maxRecDepth 100000 in
set_option maxHeartbeats 400000 in
theorem law_big1 (a0 : Option Addr) (len0 cap0 : Nat) (a1 : Option Addr) (len1 cap1 : Nat) (i j : Int) (w : World) (h0 : len0 ≤ 1048576) (h : 1048576 < len1) :
    Calls Yba.prog 3 #[.slice a0 len0 cap0, .slice a1 len1 cap1, .int .u64 i, .int .u64 j] w fun e w' => e = .returned (.bool true) ∧ Below w.heap.size w w' := by
  have h1 : ¬ (1048576 : Int) < (len0 : Int) := by omega
  go_enter Yba.func3, Yba.ntmps3
  go_wp2
  go_ret
  exact ⟨rfl, Below.refl _ _⟩

end Go.Proofs.Ybulkdsce
