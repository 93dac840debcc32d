/-
  'Rows.LawS5946AWholeCardSaid': the row, out of the walk; the card, out of the row and the given tie.
-/
import Derived.Test.YbulkdscsDoorLawB
import Derived.Test.YbulkdscsDoorRows
import Derived.Test.YbulkdscsDoorTie
import Derived.Test.YbulkdscsDoorCards
import Derived.ChangeSame
import Derived.ChangeVars
import Derived.JoinedOf
import Derived.RowKit
import Derived.RowKitTokens
import Derived.LaidLaws
import Derived.LaidHandle
import Derived.Stop.Joined
import Derived.Lay
import Derived.ProofKit
import Derived.ChangeSlices
import Derived.MakeChecks
import Derived.SevenTiedAt
import Derived.OpenShut
import Derived.ShutString
import Derived.ChangeOld
import Derived.Below
import Derived.Laws.IdiomArrays
namespace Go.Proofs.YbulkdscsDoor
open Go.ChangeShapes Go.WideShapes Go.ChangeAt Go.RowKit
open Go.ChangeMaps (open_string shut_string)

theorem own : ownKnob Ybad.prog.godebug = none := by kernel_rfl
theorem laidOut : laidOutB Ybad.prog = true := by kernel_rfl
theorem z4_named : Ybad.prog.globalNamed "net/netip.z4" = some 0 := by kernel_rfl
theorem z4_type : (Ybad.prog.globals[0]?).map (·.type) = some 35 := by kernel_rfl

theorem u8_bd {n : Int} (h : (Lit.int .u8 n).wf = true) : 0 ≤ n ∧ n ≤ 255 := by
  simp [Lit.wf, IntKind.min, IntKind.max, IntKind.bits, IntKind.signed] at h
  omega

/-- What the condition gives the walk: the variable's one cell. -/
theorem z4_of_laid {W : World} (h : laidMetH Ybad.prog [("net/netip.z4", Rows.laid_net_netip_z4)] W) : ∃ z, W.cell? ⟨0, 0, none⟩ = some (.pointer (some z)) := by
  rw [MakeChecks.laidMetH_plain _ _ _ rfl] at h
  obtain ⟨ps, hv, _⟩ := h
  obtain ⟨g, t, cs, fuel, p, q, h1, h2, h3, h4, _⟩ := hv
  obtain rfl := Option.some.inj (z4_named.symm.trans h1)
  obtain rfl := Option.some.inj (z4_type.symm.trans h2)
  obtain ⟨xs, n, rfl, hx, hl, hxl, hall⟩ := DataW.trod_struct Ybad.underlying35 h4
  have h5 := hall 0 _ rfl
  have hc : Ybad.prog.cellsOf 33 = 1 := by kernel_rfl
  have hxs : xs.map (·.1) = [.ptr (.agg [.lit (.bool false), .lit (.string [])])] := by
    have := congrArg Prod.fst hx
    simp only [Rows.laid_net_netip_z4, DataW.agg.injEq] at this
    exact this.symm
  match xs, hxs, h5 with
  | [x], hxs, h5 =>
    simp only [List.map_cons, List.map_nil, List.cons.injEq, and_true] at hxs
    simp only [List.getElem?_cons_zero] at h5
    have hcell := World.var?_cell z4_named h3 0
    rcases DataW.trod_pointer Ybad.underlying33 h5 with ⟨_, e2⟩ | ⟨a, _, _, _, _, e1, _⟩
    · rw [e2] at hxs; cases hxs
    · refine ⟨a, ?_⟩
      rw [hcell]
      have e3 : (cs.toList.drop 0).take (Ybad.prog.cellsOf 33) = [.pointer (some a)] := e1
      rw [hc] at e3
      obtain ⟨l⟩ := cs
      cases l with
      | nil => simp at e3
      | cons c r =>
        simp at e3
        simp [e3]

section
variable {H : Type} {enc : TypeId × Value → H} {W : World} {base : Nat}

/-- A slice of numbers that came in. -/
theorem row_open {q : IntKind} {t e : TypeId} (ht : Ybad.prog.underlying t = some (.slice e)) (he : Ybad.prog.underlying e = some (.int q)) (hc : Ybad.prog.cellsOf e = 1) (hb : 0 < Ybad.prog.bytesOf e) {a : Option Addr} {len cap : Nat} {d : DataW H} {p : List MemPlace}
    (h : DataW.Trod enc Ybad.prog W 0 (fun _ => true) true t (.slice a len cap) d p) (hw : ∀ n ∈ d.weights Ybad.prog t, n ≤ reachBytes) : ∃ zs, RowIs q W (.slice a len cap) zs ∧ len ≤ reachBytes := by
  obtain ⟨fuel, hf⟩ := h
  rcases open_ints ht he hc hf with ⟨hcs, _⟩ | ⟨x, l, c, zs, hcs, _, hl, hm, hz, hd, hcell, _⟩
  · simp [Value.cells] at hcs
    obtain ⟨rfl, rfl, rfl⟩ := hcs
    exact ⟨[], .inl ⟨rfl, rfl⟩, Nat.zero_le _⟩
  · simp [Value.cells] at hcs
    obtain ⟨rfl, rfl, rfl⟩ := hcs
    have hz' : zs.length = cap := by simpa using hz
    have hlen : (zs.take len).length = len := by simp; omega
    refine ⟨zs.take len, .inr ⟨x, cap, by rw [hlen], fun i hi => ?_⟩, ?_⟩
    · rw [hlen] at hi
      rw [hcell i (by omega)]
      simp [List.getD, hi]
    · obtain ⟨rfl, rfl⟩ := Prod.mk.inj hd
      have := hw (((lits (H := H) q (zs.take len)).length + (lits (H := H) q (zs.drop len)).length) * Ybad.prog.bytesOf e) (by rw [DataW.weights, ht]; exact List.mem_cons_self)
      have h2 : len ≤ ((lits (H := H) q (zs.take len)).length + (lits (H := H) q (zs.drop len)).length) * Ybad.prog.bytesOf e := by
        refine Nat.le_trans ?_ (Nat.le_mul_of_pos_right _ hb)
        simp [lits]
        omega
      omega

theorem list4 (l : List Value) (h : l.length = 4) : ∃ a b c d, l = [a, b, c, d] := by
  match l, h with
  | [a, b, c, d], _ => exact ⟨a, b, c, d, rfl⟩

set_option maxRecDepth 100000 in
/-- An array of four bytes that came in by value. -/
theorem arr_open {v : Value} {d : DataW H} {p : List MemPlace} (hval : Value.okWide Ybad.prog W .any base 25 v) (h : DataW.Trod enc Ybad.prog W 0 (fun _ => true) true 25 v d p) :
    ∃ x0 x1 x2 x3 : Int, v = .agg #[.int .u8 x0, .int .u8 x1, .int .u8 x2, .int .u8 x3] ∧ (0 ≤ x0 ∧ x0 ≤ 255) ∧ (0 ≤ x1 ∧ x1 ≤ 255) ∧ (0 ≤ x2 ∧ x2 ≤ 255) ∧ (0 ≤ x3 ∧ x3 ≤ 255) := by
  obtain ⟨cs, rfl, hsz, _⟩ : ∃ cs, v = .agg cs ∧ cs.size = Ybad.prog.cellsOf 25 ∧ Row.okWide Ybad.prog W .any base 25 cs := by
    simpa [Value.okWide, Ybad.underlying25] using hval
  have hc25 : Ybad.prog.cellsOf 25 = 4 := by kernel_rfl
  rw [hc25] at hsz
  obtain ⟨l⟩ := cs
  obtain ⟨c0, c1, c2, c3, rfl⟩ := list4 l hsz
  obtain ⟨fuel, hf⟩ := h
  obtain ⟨y0, y1, y2, y3, m, _, hy0, hy1, hy2, hy3⟩ := trod_array4 Ybad.underlying25 (by kernel_rfl) hf
  obtain ⟨x0, e0, _, w0⟩ := DataW.trod_int Ybad.underlying5 hy0
  obtain ⟨x1, e1, _, w1⟩ := DataW.trod_int Ybad.underlying5 hy1
  obtain ⟨x2, e2, _, w2⟩ := DataW.trod_int Ybad.underlying5 hy2
  obtain ⟨x3, e3, _, w3⟩ := DataW.trod_int Ybad.underlying5 hy3
  simp at e0 e1 e2 e3
  subst e0 e1 e2 e3
  exact ⟨x0, x1, x2, x3, rfl, u8_bd w0, u8_bd w1, u8_bd w2, u8_bd w3⟩
end

/-- An input that fits: the world as the shape asks it, by the kit's second look. -/
theorem witness_zip {H : Type} {enc : TypeId × Value → H} {C : Checked} {os : Os} {f : FuncId} {fn : Func} {s : ChangeSpec} {conds : List PathCond} {apart : Bool} {X : World → Array Value → Prop} (w0 : World) (args : Array Value) (fuel : Nat) (hos : w0.os = os)
    (hsh : (w0.forCall (fun _ _ => 0) ⟨#[], args, []⟩).Shaped C.prog)
    (hok : Input.okWideB C.prog (w0.forCall (fun _ _ => 0) ⟨#[], args, []⟩) f ⟨#[], args, []⟩ = true)
    (hpre : s.preB enc C.prog fn conds apart (w0.forCall (fun _ _ => 0) ⟨#[], args, []⟩).memory args fuel = true)
    (hsz : s.sizedB enc C.prog fn apart (w0.forCall (fun _ _ => 0) ⟨#[], args, []⟩).memory args fuel = true)
    (hx : X (w0.forCall (fun _ _ => 0) ⟨#[], args, []⟩).memory args) :
    ∃ (w : World) (tape : Tape) (i : Input), w.os = os ∧ (w.forCall tape i).Shaped C.prog ∧ i.vars = [] ∧ Input.okWide C.prog (w.forCall tape i) .any w.heap.size f i ∧
      ((s.pre enc C.prog fn conds apart (w.forCall tape i).memory i.args ∧ X (w.forCall tape i).memory i.args) ∧ sizedMet enc C.prog fn (OpenSpec.ofChange s) apart (w.forCall tape i).memory i.args) ∧ ({} : Assume).holds C.prog (lone (Frame.enter C.prog f i.args .normal) [] (w.forCall tape i)) :=
  ⟨w0, fun _ _ => 0, ⟨#[], args, []⟩, hos, hsh, (Input.okWide_of_okWideB (base := 0) hok).1, (Input.okWide_of_okWideB hok).2, ⟨⟨ChangeSpec.pre_of_preB hpre, hx⟩, sizedMet_of_sizedB hsz⟩, by
    simp only [Assume.holds]
    exact ⟨by simp, by simp, fun _ => Modest.zero, by simp, by simp⟩⟩

set_option maxRecDepth 100000 in
theorem lifted (os : Os) (started : os.Started) (H : Type) (enc : TypeId × Value → H) :
    ReturnsInHanded {} Ybad.checked os 3 .any (fun w args => (Rows.lawS5946AWholeSpec.pre enc Ybad.prog Ybad.f3 [] false w args ∧ laidMetH Ybad.prog [("net/netip.z4", Rows.laid_net_netip_z4)] w) ∧ sizedMet enc Ybad.prog Ybad.f3 (OpenSpec.ofChange Rows.lawS5946AWholeSpec) false w args)
      (Rows.lawS5946AWholeSpec.post enc Ybad.prog Ybad.f3 false true false false) := by
  refine returnsInHanded_of_change_and (C := Ybad.checked) (X := fun w _ => laidMetH Ybad.prog [("net/netip.z4", Rows.laid_net_netip_z4)] w) (fun _ _ _ hh h => h.of_heap hh) own started (by kernel_rfl) Ybad.func3
    (witness_zip (enc := enc) (C := Ybad.checked) (os := os) (X := fun w _ => laidMetH Ybad.prog [("net/netip.z4", Rows.laid_net_netip_z4)] w) (World.laidAll Ybad.prog os [("net/netip.z4", Rows.laid_net_netip_z4)]) #[.int .u32 0, .int .u8 0, .slice none 0 0, .slice none 0 0, .int .u64 0, .agg #[.int .u8 0, .int .u8 0, .int .u8 0, .int .u8 0], .int .u16 0, .agg #[.int .u8 0, .int .u8 0, .int .u8 0, .int .u8 0], .int .u16 0, .string ⟨#[]⟩, .slice none 0 0, .int .u8 0] 8 (World.laidAll_os _ _ _) (World.shaped_of_ZipB (by kernel_rfl) (by kernel_rfl)) (by kernel_rfl) (by kernel_rfl) (by kernel_rfl)
      (by rw [MakeChecks.laidMetH_plain _ _ _ (by kernel_rfl)]; exact laidMet_laidAll _ (by kernel_rfl) (by kernel_rfl))) ?_
  intro W base args ds gs before hval0 hW _ hsz0 hL _
  have hval : ∀ (j : Nat) t v, Ybad.f3.params[j]? = some t → args[j]? = some v → Value.okWide Ybad.prog W .any base t v := hval0
  have hW' := hW
  obtain ⟨p, q, hA0, hV, rfl, hfz, hnd⟩ := hW
  have hA : DataW.TrodAll enc Ybad.prog W 0 (fun _ => true) true Ybad.f3.params.toList args.toList ds p := hA0
  have hsz : (DataW.weightsEach Ybad.prog (Ybad.f3.params.toList ++ Rows.lawS5946AWholeSpec.plain.varTypes Ybad.prog) (ds ++ gs)).all (· ≤ reachBytes) = true := hsz0
  rw [Ybad.params3] at hA hval hsz
  obtain ⟨v0, vs0, d0, ds0, p0, q0, hargs, rfl, rfl, h0, r0⟩ := trodAll_cons hA
  obtain ⟨v1, vs1, d1, ds1, p1, q1, rfl, rfl, rfl, h1, r1⟩ := trodAll_cons r0
  obtain ⟨v2, vs2, d2, ds2, p2, q2, rfl, rfl, rfl, h2, r2⟩ := trodAll_cons r1
  obtain ⟨v3, vs3, d3, ds3, p3, q3, rfl, rfl, rfl, h3, r3⟩ := trodAll_cons r2
  obtain ⟨v4, vs4, d4, ds4, p4, q4, rfl, rfl, rfl, h4, r4⟩ := trodAll_cons r3
  obtain ⟨v5, vs5, d5, ds5, p5, q5, rfl, rfl, rfl, h5, r5⟩ := trodAll_cons r4
  obtain ⟨v6, vs6, d6, ds6, p6, q6, rfl, rfl, rfl, h6, r6⟩ := trodAll_cons r5
  obtain ⟨v7, vs7, d7, ds7, p7, q7, rfl, rfl, rfl, h7, r7⟩ := trodAll_cons r6
  obtain ⟨v8, vs8, d8, ds8, p8, q8, rfl, rfl, rfl, h8, r8⟩ := trodAll_cons r7
  obtain ⟨v9, vs9, d9, ds9, p9, q9, rfl, rfl, rfl, h9, r9⟩ := trodAll_cons r8
  obtain ⟨v10, vs10, d10, ds10, p10, q10, rfl, rfl, rfl, h10, r10⟩ := trodAll_cons r9
  obtain ⟨v11, vs11, d11, ds11, p11, q11, rfl, rfl, rfl, h11, r11⟩ := trodAll_cons r10
  obtain ⟨rfl, rfl, rfl⟩ := trodAll_nil r11
  obtain rfl : args = #[v0, v1, v2, v3, v4, v5, v6, v7, v8, v9, v10, v11] := by cases args; simp_all
  obtain ⟨rfl, rfl⟩ := trodVars_none hV
  have k0 := h0
  have lt0 : ∀ x ∈ p0, x.block < W.heap.size := by obtain ⟨m, hm⟩ := k0; exact DataW.trod_lt m _ _ _ hm
  have k1 := h1
  have lt1 : ∀ x ∈ p1, x.block < W.heap.size := by obtain ⟨m, hm⟩ := k1; exact DataW.trod_lt m _ _ _ hm
  have k2 := h2
  have lt2 : ∀ x ∈ p2, x.block < W.heap.size := by obtain ⟨m, hm⟩ := k2; exact DataW.trod_lt m _ _ _ hm
  have k3 := h3
  have lt3 : ∀ x ∈ p3, x.block < W.heap.size := by obtain ⟨m, hm⟩ := k3; exact DataW.trod_lt m _ _ _ hm
  have k4 := h4
  have lt4 : ∀ x ∈ p4, x.block < W.heap.size := by obtain ⟨m, hm⟩ := k4; exact DataW.trod_lt m _ _ _ hm
  have k5 := h5
  have lt5 : ∀ x ∈ p5, x.block < W.heap.size := by obtain ⟨m, hm⟩ := k5; exact DataW.trod_lt m _ _ _ hm
  have k6 := h6
  have lt6 : ∀ x ∈ p6, x.block < W.heap.size := by obtain ⟨m, hm⟩ := k6; exact DataW.trod_lt m _ _ _ hm
  have k7 := h7
  have lt7 : ∀ x ∈ p7, x.block < W.heap.size := by obtain ⟨m, hm⟩ := k7; exact DataW.trod_lt m _ _ _ hm
  have k8 := h8
  have lt8 : ∀ x ∈ p8, x.block < W.heap.size := by obtain ⟨m, hm⟩ := k8; exact DataW.trod_lt m _ _ _ hm
  have k9 := h9
  have lt9 : ∀ x ∈ p9, x.block < W.heap.size := by obtain ⟨m, hm⟩ := k9; exact DataW.trod_lt m _ _ _ hm
  have k10 := h10
  have lt10 : ∀ x ∈ p10, x.block < W.heap.size := by obtain ⟨m, hm⟩ := k10; exact DataW.trod_lt m _ _ _ hm
  have k11 := h11
  have lt11 : ∀ x ∈ p11, x.block < W.heap.size := by obtain ⟨m, hm⟩ := k11; exact DataW.trod_lt m _ _ _ hm
  have wt2 : ∀ n ∈ d2.weights Ybad.prog 23, n ≤ reachBytes := fun n hn => by
    have hm := DataW.weights_mem_each (P := Ybad.prog) (ts := [22, 5, 23, 23, 24, 25, 26, 25, 26, 9, 27, 5] ++ Rows.lawS5946AWholeSpec.plain.varTypes Ybad.prog) (ds := [d0, d1, d2, d3, d4, d5, d6, d7, d8, d9, d10, d11] ++ []) (j := 2) (t := 23) (d := d2) rfl rfl n hn
    simpa using (List.all_eq_true.1 hsz) n hm
  have wt3 : ∀ n ∈ d3.weights Ybad.prog 23, n ≤ reachBytes := fun n hn => by
    have hm := DataW.weights_mem_each (P := Ybad.prog) (ts := [22, 5, 23, 23, 24, 25, 26, 25, 26, 9, 27, 5] ++ Rows.lawS5946AWholeSpec.plain.varTypes Ybad.prog) (ds := [d0, d1, d2, d3, d4, d5, d6, d7, d8, d9, d10, d11] ++ []) (j := 3) (t := 23) (d := d3) rfl rfl n hn
    simpa using (List.all_eq_true.1 hsz) n hm
  have wt10 : ∀ n ∈ d10.weights Ybad.prog 27, n ≤ reachBytes := fun n hn => by
    have hm := DataW.weights_mem_each (P := Ybad.prog) (ts := [22, 5, 23, 23, 24, 25, 26, 25, 26, 9, 27, 5] ++ Rows.lawS5946AWholeSpec.plain.varTypes Ybad.prog) (ds := [d0, d1, d2, d3, d4, d5, d6, d7, d8, d9, d10, d11] ++ []) (j := 10) (t := 27) (d := d10) rfl rfl n hn
    simpa using (List.all_eq_true.1 hsz) n hm
  obtain ⟨z, hz⟩ := z4_of_laid hL
  clear hA0 hval0 hsz0 hsz
  obtain ⟨a0, rfl, _, _, w0⟩ := open_int Ybad.underlying22 (hval 0 22 v0 rfl rfl) h0
  obtain ⟨a1, rfl, _, _, w1⟩ := open_int Ybad.underlying5 (hval 1 5 v1 rfl rfl) h1
  obtain ⟨a4, rfl, _, _, w4⟩ := open_int Ybad.underlying24 (hval 4 24 v4 rfl rfl) h4
  obtain ⟨a6, rfl, _, _, w6⟩ := open_int Ybad.underlying26 (hval 6 26 v6 rfl rfl) h6
  obtain ⟨a8, rfl, _, _, w8⟩ := open_int Ybad.underlying26 (hval 8 26 v8 rfl rfl) h8
  obtain ⟨a11, rfl, _, _, w11⟩ := open_int Ybad.underlying5 (hval 11 5 v11 rfl rfl) h11
  obtain ⟨x5, y5, z5, t5, rfl, bx5, by5, bz5, bt5⟩ := arr_open (hval 5 25 v5 rfl rfl) h5
  obtain ⟨x7, y7, z7, t7, rfl, bx7, by7, bz7, bt7⟩ := arr_open (hval 7 25 v7 rfl rfl) h7
  obtain ⟨a9, rfl, _, _, _⟩ := open_string Ybad.underlying9 (hval 9 9 v9 rfl rfl) h9
  obtain ⟨a2, len2, cap2, rfl⟩ := okWide_slice Ybad.underlying23 (hval 2 23 v2 rfl rfl)
  obtain ⟨zs2, row2, bd2⟩ := row_open Ybad.underlying23 Ybad.underlying22 (by kernel_rfl) (of_decide_eq_true (by kernel_rfl)) h2 wt2
  obtain ⟨a3, len3, cap3, rfl⟩ := okWide_slice Ybad.underlying23 (hval 3 23 v3 rfl rfl)
  obtain ⟨zs3, row3, bd3⟩ := row_open Ybad.underlying23 Ybad.underlying22 (by kernel_rfl) (of_decide_eq_true (by kernel_rfl)) h3 wt3
  obtain ⟨a10, len10, cap10, rfl⟩ := okWide_slice Ybad.underlying27 (hval 10 27 v10 rfl rfl)
  obtain ⟨zs10, row10, bd10⟩ := row_open Ybad.underlying27 Ybad.underlying26 (by kernel_rfl) (of_decide_eq_true (by kernel_rfl)) h10 wt10
  obtain ⟨n11, rfl⟩ : ∃ n : Nat, a11 = n := ⟨a11.toNat, by have := (u8_bd w11).1; omega⟩
  have hrb : reachBytes = 140737488351232 := rfl
  refine (law_any a0 a1 a2 a3 a10 len2 cap2 len3 cap3 len10 cap10 a4 x5 y5 z5 t5 a6 x7 y7 z7 t7 a8 a9 n11 W zs2 zs3 zs10 z (by omega) row2 row3 row10 hz (by have := (u8_bd w11).2; omega) bx5 by5 bz5 bt5 bx7 by7 bz7 bt7).mono fun e W' ⟨he, bel⟩ => ?_
  subst he
  exact ⟨_, rfl, _, _, _, [], _, [], hW', trodAll_mk1 (shut_bool Ybad.underlying4 _), (trodAll_cons_mk (Below.trod laidOut (by kernel_rfl) (of_decide_eq_true (by kernel_rfl)) k0 bel lt0) (trodAll_cons_mk (Below.trod laidOut (by kernel_rfl) (of_decide_eq_true (by kernel_rfl)) k1 bel lt1) (trodAll_cons_mk (Below.trod laidOut (by kernel_rfl) (of_decide_eq_true (by kernel_rfl)) k2 bel lt2) (trodAll_cons_mk (Below.trod laidOut (by kernel_rfl) (of_decide_eq_true (by kernel_rfl)) k3 bel lt3) (trodAll_cons_mk (Below.trod laidOut (by kernel_rfl) (of_decide_eq_true (by kernel_rfl)) k4 bel lt4) (trodAll_cons_mk (Below.trod laidOut (by kernel_rfl) (of_decide_eq_true (by kernel_rfl)) k5 bel lt5) (trodAll_cons_mk (Below.trod laidOut (by kernel_rfl) (of_decide_eq_true (by kernel_rfl)) k6 bel lt6) (trodAll_cons_mk (Below.trod laidOut (by kernel_rfl) (of_decide_eq_true (by kernel_rfl)) k7 bel lt7) (trodAll_cons_mk (Below.trod laidOut (by kernel_rfl) (of_decide_eq_true (by kernel_rfl)) k8 bel lt8) (trodAll_cons_mk (Below.trod laidOut (by kernel_rfl) (of_decide_eq_true (by kernel_rfl)) k9 bel lt9) (trodAll_cons_mk (Below.trod laidOut (by kernel_rfl) (of_decide_eq_true (by kernel_rfl)) k10 bel lt10) (trodAll_cons_mk (Below.trod laidOut (by kernel_rfl) (of_decide_eq_true (by kernel_rfl)) k11 bel lt11) trodAll_mk0)))))))))))), rfl, bel.frame _, fun h => by cases h⟩

theorem over : Rows.lawS5946AWholeRow.holds Ybad.pinned (OpenSpec.ofChange Rows.lawS5946AWholeSpec) :=
  OpenClaim.holds_of_wide 3 Ybad.f3 rfl rfl rfl rfl rfl rfl rfl ⟨rfl, rfl, rfl, rfl, rfl⟩ rfl rfl rfl rfl rfl (by kernel_rfl) Ybad.func3 (by kernel_rfl)
    (of_decide_eq_true (by kernel_rfl)) (by unfold Func.isWrapper; first | (rw [if_pos (by decide +kernel)]; kernel_rfl) | (rw [if_neg (by decide +kernel)]; exact ⟨rfl, rfl⟩))
    (fun os started H enc _ => lifted os started H enc)

theorem lawS5946AWhole_proved : Rows.LawS5946AWholeSaid := over

end Go.Proofs.YbulkdscsDoor
