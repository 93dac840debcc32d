/-
  The law's walk where some argument is not cured.
-/
import Derived.Test.YbulkdsbqR
namespace Go.Proofs.Ybulkdsbq
open Go.RowKit

theorem Yba.info43 : (Yba.prog.info? 43).map (fun i => (i.zero, i.size, i.bytes)) = some (some (.agg #[.string .empty, .string .empty, .slice none 0 0, .string .empty, .string .empty, .string .empty, .int .i64 0, .pointer none, .int .i64 0, .bool false, .int .i64 0, .string .empty, .string .empty, .int .u64 0, .int .i64 0, .pointer none, .string .empty, .int .u64 0, .int .i64 0, .pointer none, .string .empty]), 21, 256) := by kernel_rfl

theorem store_opq' {P : Program} (b o n : Nat) (C : Array Value) (hs : C.size = n) (h1 : ∀ u ∈ C.toList, u.oneCell' = true) (w1 : World) (ht : w1.there b o n) :
    (storeCells ⟨b, o, none⟩ C.toList).run P w1 = .ok () (w1.setCells b o C.toList) := by
  have hl : C.toList.length = n := by simpa using hs
  have := run_storeCells_cells (P := P) b o C.toList 0 w1 (fun j hj => by simpa using (ht j (by omega)).1) (fun j hj => by simpa using (ht j (by omega)).2) h1
  simpa using this

theorem status_any2 (x : Int) (w : World) (h0 : 0 ≤ x) (h1 : x ≤ 255) :
    Calls Yba.prog 7 #[.int .u8 x] w fun e w' => e = .returned (.string (statusOf x)) ∧ w = w' := (status_any x w h0 h1).mono fun _ _ h => ⟨h.1, h.2.symm⟩

theorem Good.below {w w' : World} {p : Ag} (h : Good w p) (hb : Below w.heap.size w w') : Good w' p :=
  ⟨h.seen0, h.seen1, h.dead0, h.dead1, h.st0, h.st1, h.len, h.sel.below hb⟩

theorem there_sub {w : World} {b m o n : Nat} (h : w.there b 0 m) (hs : o + n ≤ m) : w.there b o n := fun j hj => by
  have := h (o + j) (by omega)
  rwa [Nat.zero_add] at this

theorem carried_some (es : List (El × Sl)) (n m G : Nat) (w : World) (hlen : es.length = n) (hm : (kept es).length = m) (hpos : 0 < m) (hn : n ≤ 65536) (hr : ∀ i (h : i < es.length), w.rangeAt G (i * 21) (es[i].1.win es[i].2)) :
    Calls Yba.prog 6 #[.slice (some ⟨G, 0, none⟩) n n] w fun e w' => ∃ g cap', e = .returned (.slice (some ⟨g, 0, none⟩) m cap') ∧ (∀ (k : Nat) (q : El × Sl), (kept es)[k]? = some q → w'.rangeAt g (k * 17) (q.1.row q.2)) ∧
      g < w'.heap.size ∧ Below w.heap.size w w' := by
  subst hlen
  subst hm
  refine (carried_walk es G w hn hr).mono ?_
  rintro e w' ⟨v, rfl, ho, _, hb⟩
  rcases id ho.2 with ⟨_, h0⟩ | ⟨g, cap, cur, rfl, _, hh, _⟩
  · omega
  · exact ⟨g, cap, rfl, fun k q hk => rows_range ho hk, (Array.getElem?_eq_some_iff.1 hh).1, hb⟩

theorem carried_none (es : List (El × Sl)) (n G : Nat) (w : World) (hlen : es.length = n) (hm : kept es = []) (hn : n ≤ 65536) (hr : ∀ i (h : i < es.length), w.rangeAt G (i * 21) (es[i].1.win es[i].2)) :
    Calls Yba.prog 6 #[.slice (some ⟨G, 0, none⟩) n n] w fun e w' => e = .returned (.slice none 0 0) ∧ Below w.heap.size w w' := by
  subst hlen
  refine (carried_walk es G w hn hr).mono ?_
  rintro e w' ⟨v, rfl, _, h, hb⟩
  rw [h hm]
  exact ⟨rfl, hb⟩

theorem kept_pos {A : List Ag} {S : List Sl} (hl : S.length = A.length) (h : ∃ p ∈ A, curedA p = false) : 0 < (kept (pairs A S)).length := by
  obtain ⟨p, hp, hc⟩ := h
  obtain ⟨i, hi, rfl⟩ := List.mem_iff_getElem.1 hp
  have h1 : A[i]? = some A[i] := List.getElem?_eq_getElem hi
  have h2 : S[i]? = some (S[i]'(by omega)) := List.getElem?_eq_getElem _
  have := (kept_len_lt (pairs_get h1 h2) (by simpa [cured, curedA] using hc)).1
  omega

theorem kept_le' (es : List (El × Sl)) : (kept es).length ≤ es.length := by
  unfold kept; exact List.length_filter_le _ _

theorem win_one' (e : El) (a : Option Addr) (l c : Nat) : (#[.string e.fund, .string e.id, .slice a l c, .string e.side, .string e.gb, .string e.ofv, .int .i64 0, .pointer none, .int .i64 0, .bool e.floor, .int .i64 e.cd, .string e.cin, .string e.group,
   .int .u64 (addW e.seen), .int .i64 (addE e.seen), .pointer none, .string e.cause, .int .u64 (addW e.dead), .int .i64 (addE e.dead), .pointer none, .string (statusOf e.st)] : Array Value).all (·.oneCell') = true := win_one e ⟨a, l, c⟩

set_option maxRecDepth 100000 in
set_option maxHeartbeats 4000000 in
theorem law_some (A : List Ag) (n b o cap : Nat) (w : World) (hAn : A.length = n) (hn : n ≤ 65536) (hp : 0 < n) (hbw : b < w.heap.size) (hA : ∀ (j : Nat) (p : Ag), A[j]? = some p → w.rangeAt b (o + j * 14) (p.e.cells p.s)) (hG : ∀ p ∈ A, Good w p)
    (hcur : ∃ p ∈ A, curedA p = false) :
    Calls Yba.prog 3 #[.slice (some ⟨b, o, none⟩) n cap] w fun e w' => e = .returned (.bool true) ∧ Below w.heap.size w w' := by
  obtain ⟨i0, hi, hz0, hz1, hz2⟩ := info_parts Yba.info43
  have HN := Hid.mk hAn
  have HA := Hid.mk hA
  have HG := Hid.mk hG
  have HCu := Hid.mk hcur
  have HI : Hid (Yba.prog.info? 43 = some i0 ∧ i0.size = 21 ∧ i0.bytes = 256) := ⟨hi, hz1, hz2⟩
  have HZ := Hid.mk hz0
  clear hAn hA hG hcur hi hz0 hz1 hz2
  have hne : ((n : Int) == 0) = false := by simp; omega
  have hq := fun (w : World) (a : Option Addr) (l c : Nat) => Lib.run_eql_slice_nil (P := Yba.prog) w 22 46 a l c 0 0 Yba.underlying22
  go_enter Yba.func3, Yba.ntmps3
  go_wp2_with (at_make; refine wpList_make_full _ rfl (.tmp 13) (.tmp 13) 23 rfl w.heap.size 43 i0 _ 21 Yba.underlying23 HI.out.1 HZ.out HI.out.2.1 .i64 .i64 _ _ n rfl rfl rfl rfl (by rw [HI.out.2.2]; omega) (by unfold maxLen; omega) (Nat.le_refl _) ?_)
  intro w0 hown hgrow
  have hM : Hid (Made w w.heap.size A [] w0) := by
    have h := HN.out
    subst h
    exact Made.start hown hgrow
  clear hown hgrow
  go_wp2
  go_loopw [4] (fun i wr => ∃ (k : Nat) (S : List Sl), k ≤ n ∧ S.length = k ∧ i = .int .i64 k ∧ Made w w.heap.size A S wr)
    (fun i _ => n - (intOf i).toNat)
  case atStart => exact ⟨0, [], Nat.zero_le _, rfl, rfl, hM.out⟩
  case round =>
    obtain ⟨k, S, hk, hS, rfl, hMd⟩ := hrel
    have HS := Hid.mk hS
    clear hM hS
    by_cases hlt : k < n
    · obtain ⟨p, hpk⟩ : ∃ p, A[k]? = some p := ⟨A[k]'(by rw [HN.out]; exact hlt), List.getElem?_eq_getElem _⟩
      have hg := HG.out p (List.mem_of_getElem? hpk)
      have s0 := hg.seen0
      have s1 := hg.seen1
      have d0 := hg.dead0
      have d1 := hg.dead1
      have t0 := hg.st0
      have t1 := hg.st1
      have hln := hg.len
      have HSel := Hid.mk (hg.sel.below hMd.below)
      have hra : wr.rangeAt b (o + k * 14) [.string p.e.fund, .string p.e.id, .slice p.s.a p.s.l p.s.c, .string p.e.side, .string p.e.gb, .string p.e.ofv, .bool p.e.floor, .int .i64 p.e.cd, .string p.e.cin, .string p.e.group, .int .i64 p.e.seen, .string p.e.cause, .int .i64 p.e.dead, .int .u8 p.e.st] := rangeAt_below (HA.out k p hpk) hMd.below
      have HP := Hid.mk hpk
      have HM := Hid.mk hMd
      have hGs := hMd.size
      clear hpk hg hMd
      go_wp2_with (first | (refine wpList_load_mid rfl 46 _ rfl b (o + k * 14) rfl [.string p.e.fund, .string p.e.id, .slice p.s.a p.s.l p.s.c, .string p.e.side, .string p.e.gb, .string p.e.ofv, .bool p.e.floor, .int .i64 p.e.cd, .string p.e.cin, .string p.e.group, .int .i64 p.e.seen, .string p.e.cause, .int .i64 p.e.dead, .int .u8 p.e.st] _ hra Yba.underlying46 rfl Yba.size46 ?_))
      refine (win_walk _ _ _ _ _ _ _ _ _ _ _ _ _ _ _ _ p.ss 0 _ hln HSel.out s0 s1 d0 d1 t0 t1).mono ?_
      rintro e w1 ⟨a', l', c', rfl, hnl, hsl, hb1⟩
      have HM2 := Hid.mk (Made.step (s := ⟨a', l', c'⟩) HM.out (by rw [HS.out]; exact HP.out) (Nat.le_refl _) hb1 hsl (isNone_of HSel.out hsl hnl))
      have hth : w1.there w.heap.size (k * 21) 21 := there_sub (there_below HM.out.there hb1 hGs) (by rw [HN.out]; omega)
      clear hnl hsl hb1
      obtain ⟨C, hC⟩ : ∃ C : Array Value, #[.string p.e.fund, .string p.e.id, .slice a' l' c', .string p.e.side, .string p.e.gb, .string p.e.ofv, .int .i64 0, .pointer none, .int .i64 0, .bool p.e.floor, .int .i64 p.e.cd, .string p.e.cin, .string p.e.group, .int .u64 (addW p.e.seen), .int .i64 (addE p.e.seen), .pointer none, .string p.e.cause, .int .u64 (addW p.e.dead), .int .i64 (addE p.e.dead), .pointer none, .string (statusOf p.e.st)] = C := ⟨_, rfl⟩
      have hCs : C.size = 21 := (congrArg Array.size hC.symm).trans rfl
      have hst := store_opq' (P := Yba.prog) w.heap.size (k * 21) 21 C hCs (by rw [← hC]; exact List.all_eq_true.1 rfl) w1 hth
      have HC2 : Hid (p.e.win ⟨a', l', c'⟩ = C.toList) := by rw [← hC]; rfl
      clear hth
      go_wp2
      rw [← HC2.out]
      go_roundw
      case rel => exact ⟨k + 1, S ++ [⟨a', l', c'⟩], by omega, by simp [HS.out], by go_num, by rw [← HS.out]; exact HM2.out⟩
      case measure => simp [intOf]; omega
    · have hkn : k = n := by omega
      go_wp2_with fail
      have hSA : S.length = A.length := by rw [HS.out, HN.out]; omega
      obtain ⟨m, hm⟩ : ∃ m, (kept (pairs A S)).length = m := ⟨_, rfl⟩
      have hmp : 0 < m := by rw [← hm]; exact kept_pos hSA HCu.out
      have hmn : m ≤ n := by rw [← hm]; have := kept_le' (pairs A S); rw [pairs_length hSA, HN.out] at this; exact this
      refine (carried_some (pairs A S) n m w.heap.size wr (by rw [pairs_length hSA]; exact HN.out) hm hmp hn (hMd.rows hSA)).mono ?_
      rintro e w2 ⟨g, cap2, rfl, hgr, hgs, hb2⟩
      have HMm := Hid.mk hm
      have HGr := Hid.mk hgr
      have HM2 := Hid.mk (hMd.later hb2)
      have HSA := Hid.mk hSA
      have hbw2 : b < w2.heap.size := by have := hMd.below.size; have := hb2.size; omega
      have hmne : ((m : Int) == 0) = false := by simp; omega
      clear hm hgr hMd hb2 hSA
      go_wp2
      go_loopw [6, 7] (fun kk ii wq => ∃ i : Nat, i ≤ n ∧ ii = .int .i64 i ∧ kk = .int .i64 (kept ((pairs A S).take i)).length ∧ Below w2.heap.size w2 wq)
        (fun _ ii _ => n - (intOf ii).toNat)
      case atStart => exact ⟨0, Nat.zero_le _, rfl, by simp [kept], Below.refl _ _⟩
      case round =>
        obtain ⟨i, hin, rfl, rfl, hbq⟩ := hrel
        by_cases hlt : i < n
        · obtain ⟨p, hpk⟩ : ∃ p, A[i]? = some p := ⟨A[i]'(by rw [HN.out]; exact hlt), List.getElem?_eq_getElem _⟩
          obtain ⟨s, hsk⟩ : ∃ s, S[i]? = some s := ⟨S[i]'(by rw [HSA.out, HN.out]; exact hlt), List.getElem?_eq_getElem _⟩
          have hes := pairs_get hpk hsk
          have hg := HG.out p (List.mem_of_getElem? hpk)
          have t0 := hg.st0
          have t1 := hg.st1
          have hMq := HM2.out.later hbq
          have HGq := Hid.mk (hg.below hMq.below)
          have HSs := Hid.mk (hMq.sel i p s hpk hsk)
          have HRa := Hid.mk (rangeAt_below (HA.out i p hpk) hMq.below)
          have hc13 : wr.cell? ⟨b, o + i * 14 + 13, none⟩ = some (.int .u8 p.e.st) := HRa.out 13 _ rfl
          obtain ⟨k, hk⟩ : ∃ k, (kept ((pairs A S).take i)).length = k := ⟨_, rfl⟩
          have hki : k ≤ i := by rw [← hk]; exact kept_le _ _
          rw [hk]
          clear hpk hsk hg hMq
          cases hcu : curedA p with
          | true =>
            have hq3 := cured_true (p := (p.e, s)) (by simpa [cured, curedA] using hcu)
            have HD : Hid ((kept ((pairs A S).take (i + 1))).length = k) := by
              have hl : i < (pairs A S).length := (List.getElem?_eq_some_iff.1 hes).1
              have := kept_drop hl (p := (p.e, s)) (by rw [List.getElem?_eq_getElem hl] at hes; exact (Option.some.inj hes).symm) (by simpa [cured, curedA] using hcu)
              rw [this]; exact hk
            clear hk hes hcu
            go_wp2_with (go_at_call 7; refine (status_any2 _ _ t0 t1).mono ?_; rintro e w' ⟨rfl, rfl⟩)
            go_roundw
            case rel => exact ⟨i + 1, by omega, by go_num, by rw [HD.out], hbq⟩
            case measure => simp [intOf]; omega
          | false =>
            have hcf : cured (p.e, s) = false := by simpa [cured, curedA] using hcu
            have hq3 := cured_false hcf
            have hkm := kept_len_lt hes hcf
            rw [hk] at hkm
            have hkm1 : k < m := by have := hkm.1; rw [HMm.out] at this; exact this
            have HRk := Hid.mk (rangeAt_below (HGr.out k _ hkm.2) hbq)
            have HD : Hid ((kept ((pairs A S).take (i + 1))).length = k + 1) := by
              have hl : i < (pairs A S).length := (List.getElem?_eq_some_iff.1 hes).1
              have := kept_keep hl (p := (p.e, s)) (by rw [List.getElem?_eq_getElem hl] at hes; exact (Option.some.inj hes).symm) hcf
              rw [this, List.length_append, hk]; rfl
            clear hk hes hcu hcf hkm
            go_wp2_with (go_at_call 7; refine (status_any2 _ _ t0 t1).mono ?_; rintro e w' ⟨rfl, rfl⟩)
            refine region18 _ _ wr _ rfl g b o n m cap cap2 i k _ p s rfl rfl rfl rfl hlt hkm1 HRk.out HRa.out HGq.out HSs.out.1 HSs.out.2 ?_
            intro w' s' hbx
            simp only [Act.put, List.setIfInBounds_toArray, List.set_cons_zero, List.set_cons_succ]
            clear hc13
            go_wp2
            go_roundw
            case rel => exact ⟨i + 1, by omega, by go_num, by rw [HD.out]; go_num, hbq.trans (hbx.mono hbq.size)⟩
            case measure => simp [intOf]; omega
        · have e1 : (kept ((pairs A S).take i)).length = m := by
            rw [List.take_of_length_le (by rw [pairs_length HSA.out, HN.out]; omega)]; exact HMm.out
          go_wp2
          go_loopw [8] (fun ii wq => ∃ i : Nat, i ≤ n ∧ ii = .int .i64 i ∧ Below w2.heap.size w2 wq)
            (fun ii _ => n - (intOf ii).toNat)
          case atStart => exact ⟨0, Nat.zero_le _, rfl, hbq⟩
          case round =>
            clear hbq e1
            obtain ⟨i3, hin3, rfl, hbq⟩ := hrel
            by_cases hlt3 : i3 < n
            · obtain ⟨p, hpk⟩ : ∃ p, A[i3]? = some p := ⟨A[i3]'(by rw [HN.out]; exact hlt3), List.getElem?_eq_getElem _⟩
              obtain ⟨s, hsk⟩ : ∃ s, S[i3]? = some s := ⟨S[i3]'(by rw [HSA.out, HN.out]; exact hlt3), List.getElem?_eq_getElem _⟩
              have hg := HG.out p (List.mem_of_getElem? hpk)
              have hMq := HM2.out.later hbq
              have HGq := Hid.mk (hg.below hMq.below)
              have HSs := Hid.mk (hMq.sel i3 p s hpk hsk)
              have HRa := Hid.mk (rangeAt_below (HA.out i3 p hpk) hMq.below)
              have HRw := Hid.mk (hMq.row i3 p s hpk hsk)
              clear hpk hsk hg hMq
              go_wp2
              refine region28 _ _ wr _ rfl w.heap.size b o n cap i3 _ p s rfl rfl rfl hlt3 HRw.out HRa.out HGq.out HSs.out.1 HSs.out.2 ?_
              intro w' s' hbx
              simp only [Act.put, List.setIfInBounds_toArray, List.set_cons_zero, List.set_cons_succ]
              go_wp2
              go_roundw
              case rel => exact ⟨i3 + 1, by omega, by go_num, hbq.trans (hbx.mono hbq.size)⟩
              case measure => simp [intOf]; omega
            · go_wp2
              go_ret
              exact ⟨rfl, (HM2.out.later hbq).below⟩

end Go.Proofs.Ybulkdsbq
