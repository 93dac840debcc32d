/-
  Region 28 of the law ('!zzs5944bweq(ws[i], zzs5944bwin(args[i]))'), which draws its order, for whatever frame.
-/
import Derived.Test.YbulkdsbqF
namespace Go.Proofs.Ybulkdsbq
open Go.RowKit

theorem Yba.size46 : (Yba.prog.info? 46).map (·.size) = some 14 := by kernel_rfl

theorem eval_same (a : Act) (d : Nat) (v : Value) (h : d < a.tmps.size) : (a.put (some d) v).eval (.tmp d) = v := by
  simp [Act.put, Act.eval, h]
theorem eval_ne (a : Act) (d t : Nat) (v : Value) (h : t ≠ d) : (a.put (some d) v).eval (.tmp t) = a.eval (.tmp t) := by
  simp [Act.put, Act.eval, Ne.symm h]
theorem size_put (a : Act) (d : Nat) (v : Value) : (a.put (some d) v).tmps.size = a.tmps.size := by simp [Act.put]

theorem run_idx {P : Program} (a : Act) (dst : Option Tmp) (t e ty : TypeId) (ps : String) (after : Array Edge) (x y : Operand) (b o n c i sz : Nat) (hx : a.eval x = .slice (some ⟨b, o, none⟩) n c) (hy : a.eval y = .int .i64 i) (hi : i < n)
    (ht : P.underlying t = some (.slice e)) (hs : (P.info? e).map (·.size) = some sz) (w : World) :
    (execOp a.eval ⟨dst, .indexAddr t x y, ty, ps, after, none⟩).run P w = .ok (.value (.pointer (some ⟨b, o + i * sz, none⟩))) w := by
  have he : P.elem t = e := by simp [Program.elem, ht]
  cases hq : P.info? e with
  | none => simp [hq] at hs
  | some inf =>
    have hsz : inf.size = sz := by simpa [hq] using hs
    simp only [execOp, hx, hy, Sem.run_bind]
    rw [run_indexAt_slice (P := P) (w := w) t ⟨b, o, none⟩ n c .i64 i (by rw [he]; exact ht)]
    rw [if_pos ⟨by omega, by omega⟩]
    simp [sizeOf, typeInfo, he, hq, hsz, Addr.add_mid]

/-- A call of function 5 with one argument. -/
theorem wp_call5 {a : Act} {w : World} {K : Act → World → Prop} {Q : Exit → Act → World → Prop} (d x : Nat) (ps : String) (after : Array Edge) {v : Value} (hx : a.eval (.tmp x) = v)
    (h : Calls Yba.prog 5 #[v] w fun
      | .returned u, w'' => K (a.put (some d) u) w''
      | .panicked chain, w'' => Q (.panic chain) a w''
      | .outgrown, _ => LetsOut Q) :
    Oper.wp Yba.prog ⟨some d, .call { callee := .value (.func 5), args := #[.tmp x], argTypes := #[46] }, 43, ps, after, none⟩ a w K Q := by
  obtain ⟨tmps, df⟩ := a
  have hx' : tmps[x]?.getD undef = v := by simpa [Act.eval] using hx
  go_simp
  exact h

/-- A call of function 9 with two arguments. -/
theorem wp_call9 {a : Act} {w : World} {K : Act → World → Prop} {Q : Exit → Act → World → Prop} (d x y : Nat) (ps : String) (after : Array Edge) {v u : Value} (hx : a.eval (.tmp x) = v) (hy : a.eval (.tmp y) = u)
    (h : Calls Yba.prog 9 #[v, u] w fun
      | .returned u, w'' => K (a.put (some d) u) w''
      | .panicked chain, w'' => Q (.panic chain) a w''
      | .outgrown, _ => LetsOut Q) :
    Oper.wp Yba.prog ⟨some d, .call { callee := .value (.func 9), args := #[.tmp x, .tmp y], argTypes := #[43, 43] }, 4, ps, after, none⟩ a w K Q := by
  obtain ⟨tmps, df⟩ := a
  have hx' : tmps[x]?.getD undef = v := by simpa [Act.eval] using hx
  have hy' : tmps[y]?.getD undef = u := by simpa [Act.eval] using hy
  go_simp
  exact h

set_option maxHeartbeats 1000000 in
theorem region28 (ps : String) (a : Act) (wr : World) (Q : Exit → Act → World → Prop) (hz : a.tmps.size = 95) (G b o n cap i lo : Nat) (p : Ag) (s : Sl)
    (h3 : a.eval (.tmp 3) = .slice (some ⟨G, 0, none⟩) n n) (h8 : a.eval (.tmp 8) = .int .i64 i) (h0 : a.eval (.tmp 0) = .slice (some ⟨b, o, none⟩) n cap) (hi : i < n)
    (hw : wr.rangeAt G (i * 21) (p.e.win s)) (ha : wr.rangeAt b (o + i * 14) (p.e.cells p.s)) (hg : Good wr p) (hs : SelF wr lo (.slice s.a s.l s.c) p.ss) (hn : s.a.isNone = p.s.a.isNone)
    (hQ : ∀ (w' : World) (s' : Sl), Below wr.heap.size wr w' → Q .normal (((((((((((a.put (some 84) (.slice (some ⟨G, 0, none⟩) n n)).put (some 85) (.int .i64 i)).put (some 86) (.pointer (some ⟨G, 0 + i * 21, none⟩))).put (some 87) (.agg (p.e.win s).toArray)).put (some 88) (.slice (some ⟨b, o, none⟩) n cap)).put (some 89) (.int .i64 i)).put (some 90) (.pointer (some ⟨b, o + i * 14, none⟩))).put (some 91) (.agg (p.e.cells p.s).toArray)).put (some 92) (.agg (p.e.win s').toArray)).put (some 93) (.bool true)).put (some 94) (.bool false)) w') :
    (Code.region 28 #[{ dst := some 84, op := Op.move (Operand.tmp 3), type := 23, pos := ps, after := #[], guard := none }, { dst := some 85, op := Op.move (Operand.tmp 8), type := 3, pos := ps, after := #[], guard := none }, { dst := some 86, op := Op.indexAddr 23 (Operand.tmp 84) (Operand.tmp 85), type := 0, pos := ps, after := #[{ on := 0, ground := Ground.data }, { on := 1, ground := Ground.data }], guard := none }, { dst := some 87, op := Op.load 43 (Operand.tmp 86), type := 43, pos := ps, after := #[{ on := 2, ground := Ground.data }], guard := none }, { dst := some 88, op := Op.move (Operand.tmp 0), type := 22, pos := ps, after := #[], guard := none }, { dst := some 89, op := Op.move (Operand.tmp 8), type := 3, pos := ps, after := #[], guard := none }, { dst := some 90, op := Op.indexAddr 22 (Operand.tmp 88) (Operand.tmp 89), type := 0, pos := ps, after := #[{ on := 4, ground := Ground.data }, { on := 5, ground := Ground.data }], guard := none }, { dst := some 91, op := Op.load 46 (Operand.tmp 90), type := 46, pos := ps, after := #[{ on := 6, ground := Ground.data }], guard := none }, { dst := some 92, op := Op.call { callee := Callee.value (Operand.func 5), args := #[Operand.tmp 91], argTypes := #[46] }, type := 43, pos := ps, after := #[{ on := 7, ground := Ground.data }], guard := none }, { dst := some 93, op := Op.call { callee := Callee.value (Operand.func 9), args := #[Operand.tmp 87, Operand.tmp 92], argTypes := #[43, 43] }, type := 4, pos := ps, after := #[{ on := 3, ground := Ground.data }, { on := 8, ground := Ground.data }, { on := 8, ground := Ground.chain }], guard := none }, { dst := some 94, op := Op.unOp UnOp.not 4 (Operand.tmp 93), type := 4, pos := ps, after := #[{ on := 9, ground := Ground.data }], guard := none }] true).wp Yba.prog Q a wr := by
  refine wp_region_noPanic ?_
  refine wp_region_held_drew (S := fun w' => Below wr.heap.size wr w') (by kernel_rfl) (Below.refl _ _).drew (fun hH => ?_)
  refine wpAnyH_take (i := 0) (oi := ⟨some 84, .move (.tmp 3), 23, ps, #[], none⟩) (v := .slice (some ⟨G, 0, none⟩) n n) rfl (by kernel_rfl) (by kernel_rfl) (by kernel_rfl) (fun _ _ _ h => h) (.inl ⟨rfl, fun w _ => by simp [execOp, h3]⟩) hH ?_
  refine wpAnyH_take (i := 1) (oi := ⟨some 85, .move (.tmp 8), 3, ps, #[], none⟩) (v := .int .i64 i) rfl (by kernel_rfl) (by kernel_rfl) (by kernel_rfl) (fun _ _ _ h => h) (.inl ⟨rfl, fun w _ => by simp [execOp, eval_ne, h8]⟩) hH ?_
  refine wpAnyH_take (i := 2) (oi := ⟨some 86, .indexAddr 23 (.tmp 84) (.tmp 85), 0, ps, #[⟨0, .data⟩, ⟨1, .data⟩], none⟩) (v := .pointer (some ⟨G, 0 + i * 21, none⟩)) rfl (by kernel_rfl) (by kernel_rfl) (by kernel_rfl) (fun _ _ _ h => h) (.inl ⟨rfl, fun w _ => run_idx _ _ _ 43 _ _ _ _ _ _ _ n n i 21 (by simp [eval_ne, eval_same, hz]) (by simp [eval_same, size_put, hz]) hi Yba.underlying23 Yba.size43 w⟩) hH ?_
  refine wpAnyH_take (i := 3) (oi := ⟨some 87, .load 43 (.tmp 86), 43, ps, #[⟨2, .data⟩], none⟩) (v := .agg (p.e.win s).toArray) rfl (by kernel_rfl) (by kernel_rfl) (by kernel_rfl) (fun _ _ _ h => h) (yieldsIf_load_mid rfl 43 _ rfl G (0 + i * 21) (by simp [eval_same, size_put, hz]) (p.e.win s) _ (fun w h => by rw [Nat.zero_add]; exact rangeAt_below hw h) Yba.underlying43 rfl Yba.size43) hH ?_
  refine wpAnyH_take (i := 4) (oi := ⟨some 88, .move (.tmp 0), 22, ps, #[], none⟩) (v := .slice (some ⟨b, o, none⟩) n cap) rfl (by kernel_rfl) (by kernel_rfl) (by kernel_rfl) (fun _ _ _ h => h) (.inl ⟨rfl, fun w _ => by simp [execOp, eval_ne, h0]⟩) hH ?_
  refine wpAnyH_take (i := 5) (oi := ⟨some 89, .move (.tmp 8), 3, ps, #[], none⟩) (v := .int .i64 i) rfl (by kernel_rfl) (by kernel_rfl) (by kernel_rfl) (fun _ _ _ h => h) (.inl ⟨rfl, fun w _ => by simp [execOp, eval_ne, h8]⟩) hH ?_
  refine wpAnyH_take (i := 6) (oi := ⟨some 90, .indexAddr 22 (.tmp 88) (.tmp 89), 0, ps, #[⟨4, .data⟩, ⟨5, .data⟩], none⟩) (v := .pointer (some ⟨b, o + i * 14, none⟩)) rfl (by kernel_rfl) (by kernel_rfl) (by kernel_rfl) (fun _ _ _ h => h) (.inl ⟨rfl, fun w _ => run_idx _ _ _ 46 _ _ _ _ _ _ _ n cap i 14 (by simp [eval_ne, eval_same, size_put, hz]) (by simp [eval_same, size_put, hz]) hi Yba.underlying22 Yba.size46 w⟩) hH ?_
  refine wpAnyH_take (i := 7) (oi := ⟨some 91, .load 46 (.tmp 90), 46, ps, #[⟨6, .data⟩], none⟩) (v := .agg (p.e.cells p.s).toArray) rfl (by kernel_rfl) (by kernel_rfl) (by kernel_rfl) (fun _ _ _ h => h) (yieldsIf_load_mid rfl 46 _ rfl b (o + i * 14) (by simp [eval_same, size_put, hz]) (p.e.cells p.s) _ (fun w h => rangeAt_below ha h) Yba.underlying46 rfl Yba.size46) hH ?_
  refine wpAnyH_ready (rs := [8]) (by kernel_rfl) (by simp) ?_
  refine AllReadyH.cons (o := ⟨some 92, .call { callee := .value (.func 5), args := #[.tmp 91], argTypes := #[46] }, 43, ps, #[⟨7, .data⟩], none⟩) rfl (fun K hK => ?_) AllReadyH.nil
  have z8 : ((((((((a.put (some 84) (.slice (some ⟨G, 0, none⟩) n n)).put (some 85) (.int .i64 i)).put (some 86) (.pointer (some ⟨G, 0 + i * 21, none⟩))).put (some 87) (.agg (p.e.win s).toArray)).put (some 88) (.slice (some ⟨b, o, none⟩) n cap)).put (some 89) (.int .i64 i)).put (some 90) (.pointer (some ⟨b, o + i * 14, none⟩))).put (some 91) (.agg (p.e.cells p.s).toArray)).tmps.size = 95 := by simp [size_put, hz]
  have e91 : ((((((((a.put (some 84) (.slice (some ⟨G, 0, none⟩) n n)).put (some 85) (.int .i64 i)).put (some 86) (.pointer (some ⟨G, 0 + i * 21, none⟩))).put (some 87) (.agg (p.e.win s).toArray)).put (some 88) (.slice (some ⟨b, o, none⟩) n cap)).put (some 89) (.int .i64 i)).put (some 90) (.pointer (some ⟨b, o + i * 14, none⟩))).put (some 91) (.agg (p.e.cells p.s).toArray)).eval (.tmp 91) = .agg (p.e.cells p.s).toArray := eval_same _ _ _ (by simp [size_put, hz])
  have e87 : ((((((((a.put (some 84) (.slice (some ⟨G, 0, none⟩) n n)).put (some 85) (.int .i64 i)).put (some 86) (.pointer (some ⟨G, 0 + i * 21, none⟩))).put (some 87) (.agg (p.e.win s).toArray)).put (some 88) (.slice (some ⟨b, o, none⟩) n cap)).put (some 89) (.int .i64 i)).put (some 90) (.pointer (some ⟨b, o + i * 14, none⟩))).put (some 91) (.agg (p.e.cells p.s).toArray)).eval (.tmp 87) = .agg (p.e.win s).toArray := by
    rw [eval_ne _ _ _ _ (by decide), eval_ne _ _ _ _ (by decide), eval_ne _ _ _ _ (by decide), eval_ne _ _ _ _ (by decide)]
    exact eval_same _ _ _ (by simp [size_put, hz])
  generalize ((((((((a.put (some 84) (.slice (some ⟨G, 0, none⟩) n n)).put (some 85) (.int .i64 i)).put (some 86) (.pointer (some ⟨G, 0 + i * 21, none⟩))).put (some 87) (.agg (p.e.win s).toArray)).put (some 88) (.slice (some ⟨b, o, none⟩) n cap)).put (some 89) (.int .i64 i)).put (some 90) (.pointer (some ⟨b, o + i * 14, none⟩))).put (some 91) (.agg (p.e.cells p.s).toArray)) = a8 at e91 e87 z8 hQ ⊢
  rw [if_pos (by rfl)]
  refine wp_call5 _ _ _ _ e91 ?_
  refine (win_walk _ _ _ _ _ _ _ _ _ _ _ _ _ _ _ _ p.ss 0 _ hg.len (hg.sel.below (Below.refl _ _).drew) hg.seen0 hg.seen1 hg.dead0 hg.dead1 hg.st0 hg.st1).mono ?_
  rintro e w1 ⟨a', l', c', rfl, hnl, hsl, hb1⟩
  have hB1 : Below wr.heap.size wr w1 := (Below.refl _ _).drew.trans hb1
  refine hK.out _ _ hB1 (fun hH1 => ?_)
  clear hK K
  have hz9 : (a8.put (some 92) (.agg (p.e.win ⟨a', l', c'⟩).toArray)).tmps.size = 95 := by rw [size_put, z8]
  have e92 : (a8.put (some 92) (.agg (p.e.win ⟨a', l', c'⟩).toArray)).eval (.tmp 92) = .agg (p.e.win ⟨a', l', c'⟩).toArray := eval_same _ _ _ (by omega)
  have e87' : (a8.put (some 92) (.agg (p.e.win ⟨a', l', c'⟩).toArray)).eval (.tmp 87) = .agg (p.e.win s).toArray := by rw [eval_ne _ _ _ _ (by decide)]; exact e87
  refine wpAnyH_ready (rs := [9]) (by kernel_rfl) (by simp) ?_
  refine AllReadyH.cons (o := ⟨some 93, .call { callee := .value (.func 9), args := #[.tmp 87, .tmp 92], argTypes := #[43, 43] }, 4, ps, #[⟨3, .data⟩, ⟨8, .data⟩, ⟨8, .chain⟩], none⟩) rfl (fun K hK => ?_) AllReadyH.nil
  rw [if_pos (by rfl)]
  refine wp_call9 (a := a8.put (some 92) (.agg (p.e.win ⟨a', l', c'⟩).toArray)) _ _ _ _ _ e87' e92 ?_
  refine (weq_any p.e.fund p.e.id p.e.side p.e.gb p.e.ofv p.e.cin p.e.group p.e.cause (statusOf p.e.st) s.a a' s.l s.c l' c' p.e.floor p.e.cd (addW p.e.seen) (addE p.e.seen) (addW p.e.dead) (addE p.e.dead) p.ss lo _ _ hg.len (hs.below hB1) hsl (hn.trans (isNone_of hg.sel hsl hnl).symm)).mono ?_
  rintro e w2 ⟨rfl, hb2⟩
  have hB2 : Below wr.heap.size wr w2 := hB1.trans (hb2.mono hB1.size)
  refine hK.out _ _ hB2 (fun hH2 => ?_)
  clear hK K
  refine wpAnyH_take (i := 10) (oi := ⟨some 94, .unOp .not 4 (.tmp 93), 4, ps, #[⟨9, .data⟩], none⟩) (v := .bool false) rfl (by kernel_rfl) (by kernel_rfl) (by kernel_rfl) (fun _ _ _ h => h) (.inl ⟨rfl, fun w _ => ?_⟩) hH2 ?_
  · have e93 : ((a8.put (some 92) (.agg (p.e.win ⟨a', l', c'⟩).toArray)).put (some 93) (.bool true)).eval (.tmp 93) = .bool true := eval_same _ _ _ (by omega)
    show (execOp ((a8.put (some 92) (.agg (p.e.win ⟨a', l', c'⟩).toArray)).put (some 93) (.bool true)).eval _).run _ _ = _
    simp only [execOp, e93]
    rfl
  · refine wpAnyH_done (by kernel_rfl) ?_ _
    exact NoPanic.normal (hQ w2 ⟨a', l', c'⟩ hB2)

theorem Yba.size52 : (Yba.prog.info? 52).map (·.size) = some 17 := by kernel_rfl

/-- A call of function 8 with two arguments. -/
theorem wp_call8 {a : Act} {w : World} {K : Act → World → Prop} {Q : Exit → Act → World → Prop} (d x y : Nat) (ps : String) (after : Array Edge) {v u : Value} (hx : a.eval (.tmp x) = v) (hy : a.eval (.tmp y) = u)
    (h : Calls Yba.prog 8 #[v, u] w fun
      | .returned u, w'' => K (a.put (some d) u) w''
      | .panicked chain, w'' => Q (.panic chain) a w''
      | .outgrown, _ => LetsOut Q) :
    Oper.wp Yba.prog ⟨some d, .call { callee := .value (.func 8), args := #[.tmp x, .tmp y], argTypes := #[52, 43] }, 4, ps, after, none⟩ a w K Q := by
  obtain ⟨tmps, df⟩ := a
  have hx' : tmps[x]?.getD undef = v := by simpa [Act.eval] using hx
  have hy' : tmps[y]?.getD undef = u := by simpa [Act.eval] using hy
  go_simp
  exact h

set_option maxHeartbeats 1000000 in
theorem region18 (ps : String) (a : Act) (wr : World) (Q : Exit → Act → World → Prop) (hz : a.tmps.size = 95) (G b o n m cap capG i k lo : Nat) (p : Ag) (s : Sl)
    (h5 : a.eval (.tmp 5) = .slice (some ⟨G, 0, none⟩) m capG) (h6 : a.eval (.tmp 6) = .int .i64 k) (h7 : a.eval (.tmp 7) = .int .i64 i) (h0 : a.eval (.tmp 0) = .slice (some ⟨b, o, none⟩) n cap) (hi : i < n) (hk : k < m)
    (hw : wr.rangeAt G (k * 17) (p.e.row s)) (ha : wr.rangeAt b (o + i * 14) (p.e.cells p.s)) (hg : Good wr p) (hs : SelF wr lo (.slice s.a s.l s.c) p.ss) (hn : s.a.isNone = p.s.a.isNone)
    (hQ : ∀ (w' : World) (s' : Sl), Below wr.heap.size wr w' → Q .normal (((((((((((a.put (some 55) (.slice (some ⟨G, 0, none⟩) m capG)).put (some 56) (.int .i64 k)).put (some 57) (.pointer (some ⟨G, 0 + k * 17, none⟩))).put (some 58) (.agg (p.e.row s).toArray)).put (some 59) (.slice (some ⟨b, o, none⟩) n cap)).put (some 60) (.int .i64 i)).put (some 61) (.pointer (some ⟨b, o + i * 14, none⟩))).put (some 62) (.agg (p.e.cells p.s).toArray)).put (some 63) (.agg (p.e.win s').toArray)).put (some 64) (.bool true)).put (some 65) (.bool false)) w') :
    (Code.region 18 #[{ dst := some 55, op := Op.move (Operand.tmp 5), type := 47, pos := ps, after := #[], guard := none }, { dst := some 56, op := Op.move (Operand.tmp 6), type := 3, pos := ps, after := #[], guard := none }, { dst := some 57, op := Op.indexAddr 47 (Operand.tmp 55) (Operand.tmp 56), type := 0, pos := ps, after := #[{ on := 0, ground := Ground.data }, { on := 1, ground := Ground.data }], guard := none }, { dst := some 58, op := Op.load 52 (Operand.tmp 57), type := 52, pos := ps, after := #[{ on := 2, ground := Ground.data }], guard := none }, { dst := some 59, op := Op.move (Operand.tmp 0), type := 22, pos := ps, after := #[], guard := none }, { dst := some 60, op := Op.move (Operand.tmp 7), type := 3, pos := ps, after := #[], guard := none }, { dst := some 61, op := Op.indexAddr 22 (Operand.tmp 59) (Operand.tmp 60), type := 0, pos := ps, after := #[{ on := 4, ground := Ground.data }, { on := 5, ground := Ground.data }], guard := none }, { dst := some 62, op := Op.load 46 (Operand.tmp 61), type := 46, pos := ps, after := #[{ on := 6, ground := Ground.data }], guard := none }, { dst := some 63, op := Op.call { callee := Callee.value (Operand.func 5), args := #[Operand.tmp 62], argTypes := #[46] }, type := 43, pos := ps, after := #[{ on := 7, ground := Ground.data }], guard := none }, { dst := some 64, op := Op.call { callee := Callee.value (Operand.func 8), args := #[Operand.tmp 58, Operand.tmp 63], argTypes := #[52, 43] }, type := 4, pos := ps, after := #[{ on := 3, ground := Ground.data }, { on := 8, ground := Ground.data }, { on := 8, ground := Ground.chain }], guard := none }, { dst := some 65, op := Op.unOp UnOp.not 4 (Operand.tmp 64), type := 4, pos := ps, after := #[{ on := 9, ground := Ground.data }], guard := none }] true).wp Yba.prog Q a wr := by
  refine wp_region_noPanic ?_
  refine wp_region_held_drew (S := fun w' => Below wr.heap.size wr w') (by kernel_rfl) (Below.refl _ _).drew (fun hH => ?_)
  refine wpAnyH_take (i := 0) (oi := ⟨some 55, .move (.tmp 5), 47, ps, #[], none⟩) (v := .slice (some ⟨G, 0, none⟩) m capG) rfl (by kernel_rfl) (by kernel_rfl) (by kernel_rfl) (fun _ _ _ h => h) (.inl ⟨rfl, fun w _ => by simp [execOp, h5]⟩) hH ?_
  refine wpAnyH_take (i := 1) (oi := ⟨some 56, .move (.tmp 6), 3, ps, #[], none⟩) (v := .int .i64 k) rfl (by kernel_rfl) (by kernel_rfl) (by kernel_rfl) (fun _ _ _ h => h) (.inl ⟨rfl, fun w _ => by simp [execOp, eval_ne, h6]⟩) hH ?_
  refine wpAnyH_take (i := 2) (oi := ⟨some 57, .indexAddr 47 (.tmp 55) (.tmp 56), 0, ps, #[⟨0, .data⟩, ⟨1, .data⟩], none⟩) (v := .pointer (some ⟨G, 0 + k * 17, none⟩)) rfl (by kernel_rfl) (by kernel_rfl) (by kernel_rfl) (fun _ _ _ h => h) (.inl ⟨rfl, fun w _ => run_idx _ _ _ 52 _ _ _ _ _ _ _ m capG k 17 (by simp [eval_ne, eval_same, hz]) (by simp [eval_same, size_put, hz]) hk Yba.underlying47 Yba.size52 w⟩) hH ?_
  refine wpAnyH_take (i := 3) (oi := ⟨some 58, .load 52 (.tmp 57), 52, ps, #[⟨2, .data⟩], none⟩) (v := .agg (p.e.row s).toArray) rfl (by kernel_rfl) (by kernel_rfl) (by kernel_rfl) (fun _ _ _ h => h) (yieldsIf_load_mid rfl 52 _ rfl G (0 + k * 17) (by simp [eval_same, size_put, hz]) (p.e.row s) _ (fun w h => by rw [Nat.zero_add]; exact rangeAt_below hw h) Yba.underlying52 rfl Yba.size52) hH ?_
  refine wpAnyH_take (i := 4) (oi := ⟨some 59, .move (.tmp 0), 22, ps, #[], none⟩) (v := .slice (some ⟨b, o, none⟩) n cap) rfl (by kernel_rfl) (by kernel_rfl) (by kernel_rfl) (fun _ _ _ h => h) (.inl ⟨rfl, fun w _ => by simp [execOp, eval_ne, h0]⟩) hH ?_
  refine wpAnyH_take (i := 5) (oi := ⟨some 60, .move (.tmp 7), 3, ps, #[], none⟩) (v := .int .i64 i) rfl (by kernel_rfl) (by kernel_rfl) (by kernel_rfl) (fun _ _ _ h => h) (.inl ⟨rfl, fun w _ => by simp [execOp, eval_ne, h7]⟩) hH ?_
  refine wpAnyH_take (i := 6) (oi := ⟨some 61, .indexAddr 22 (.tmp 59) (.tmp 60), 0, ps, #[⟨4, .data⟩, ⟨5, .data⟩], none⟩) (v := .pointer (some ⟨b, o + i * 14, none⟩)) rfl (by kernel_rfl) (by kernel_rfl) (by kernel_rfl) (fun _ _ _ h => h) (.inl ⟨rfl, fun w _ => run_idx _ _ _ 46 _ _ _ _ _ _ _ n cap i 14 (by simp [eval_ne, eval_same, size_put, hz]) (by simp [eval_same, size_put, hz]) hi Yba.underlying22 Yba.size46 w⟩) hH ?_
  refine wpAnyH_take (i := 7) (oi := ⟨some 62, .load 46 (.tmp 61), 46, ps, #[⟨6, .data⟩], none⟩) (v := .agg (p.e.cells p.s).toArray) rfl (by kernel_rfl) (by kernel_rfl) (by kernel_rfl) (fun _ _ _ h => h) (yieldsIf_load_mid rfl 46 _ rfl b (o + i * 14) (by simp [eval_same, size_put, hz]) (p.e.cells p.s) _ (fun w h => rangeAt_below ha h) Yba.underlying46 rfl Yba.size46) hH ?_
  refine wpAnyH_ready (rs := [8]) (by kernel_rfl) (by simp) ?_
  refine AllReadyH.cons (o := ⟨some 63, .call { callee := .value (.func 5), args := #[.tmp 62], argTypes := #[46] }, 43, ps, #[⟨7, .data⟩], none⟩) rfl (fun K hK => ?_) AllReadyH.nil
  have z8 : ((((((((a.put (some 55) (.slice (some ⟨G, 0, none⟩) m capG)).put (some 56) (.int .i64 k)).put (some 57) (.pointer (some ⟨G, 0 + k * 17, none⟩))).put (some 58) (.agg (p.e.row s).toArray)).put (some 59) (.slice (some ⟨b, o, none⟩) n cap)).put (some 60) (.int .i64 i)).put (some 61) (.pointer (some ⟨b, o + i * 14, none⟩))).put (some 62) (.agg (p.e.cells p.s).toArray)).tmps.size = 95 := by simp [size_put, hz]
  have e62 : ((((((((a.put (some 55) (.slice (some ⟨G, 0, none⟩) m capG)).put (some 56) (.int .i64 k)).put (some 57) (.pointer (some ⟨G, 0 + k * 17, none⟩))).put (some 58) (.agg (p.e.row s).toArray)).put (some 59) (.slice (some ⟨b, o, none⟩) n cap)).put (some 60) (.int .i64 i)).put (some 61) (.pointer (some ⟨b, o + i * 14, none⟩))).put (some 62) (.agg (p.e.cells p.s).toArray)).eval (.tmp 62) = .agg (p.e.cells p.s).toArray := eval_same _ _ _ (by simp [size_put, hz])
  have e58 : ((((((((a.put (some 55) (.slice (some ⟨G, 0, none⟩) m capG)).put (some 56) (.int .i64 k)).put (some 57) (.pointer (some ⟨G, 0 + k * 17, none⟩))).put (some 58) (.agg (p.e.row s).toArray)).put (some 59) (.slice (some ⟨b, o, none⟩) n cap)).put (some 60) (.int .i64 i)).put (some 61) (.pointer (some ⟨b, o + i * 14, none⟩))).put (some 62) (.agg (p.e.cells p.s).toArray)).eval (.tmp 58) = .agg (p.e.row s).toArray := by
    rw [eval_ne _ _ _ _ (by decide), eval_ne _ _ _ _ (by decide), eval_ne _ _ _ _ (by decide), eval_ne _ _ _ _ (by decide)]
    exact eval_same _ _ _ (by simp [size_put, hz])
  generalize ((((((((a.put (some 55) (.slice (some ⟨G, 0, none⟩) m capG)).put (some 56) (.int .i64 k)).put (some 57) (.pointer (some ⟨G, 0 + k * 17, none⟩))).put (some 58) (.agg (p.e.row s).toArray)).put (some 59) (.slice (some ⟨b, o, none⟩) n cap)).put (some 60) (.int .i64 i)).put (some 61) (.pointer (some ⟨b, o + i * 14, none⟩))).put (some 62) (.agg (p.e.cells p.s).toArray)) = a8 at e62 e58 z8 hQ ⊢
  rw [if_pos (by rfl)]
  refine wp_call5 _ _ _ _ e62 ?_
  refine (win_walk _ _ _ _ _ _ _ _ _ _ _ _ _ _ _ _ p.ss 0 _ hg.len (hg.sel.below (Below.refl _ _).drew) hg.seen0 hg.seen1 hg.dead0 hg.dead1 hg.st0 hg.st1).mono ?_
  rintro e w1 ⟨a', l', c', rfl, hnl, hsl, hb1⟩
  have hB1 : Below wr.heap.size wr w1 := (Below.refl _ _).drew.trans hb1
  refine hK.out _ _ hB1 (fun hH1 => ?_)
  clear hK K
  have hz9 : (a8.put (some 63) (.agg (p.e.win ⟨a', l', c'⟩).toArray)).tmps.size = 95 := by rw [size_put, z8]
  have e63 : (a8.put (some 63) (.agg (p.e.win ⟨a', l', c'⟩).toArray)).eval (.tmp 63) = .agg (p.e.win ⟨a', l', c'⟩).toArray := eval_same _ _ _ (by omega)
  have e58' : (a8.put (some 63) (.agg (p.e.win ⟨a', l', c'⟩).toArray)).eval (.tmp 58) = .agg (p.e.row s).toArray := by rw [eval_ne _ _ _ _ (by decide)]; exact e58
  refine wpAnyH_ready (rs := [9]) (by kernel_rfl) (by simp) ?_
  refine AllReadyH.cons (o := ⟨some 64, .call { callee := .value (.func 8), args := #[.tmp 58, .tmp 63], argTypes := #[52, 43] }, 4, ps, #[⟨3, .data⟩, ⟨8, .data⟩, ⟨8, .chain⟩], none⟩) rfl (fun K hK => ?_) AllReadyH.nil
  rw [if_pos (by rfl)]
  refine wp_call8 (a := a8.put (some 63) (.agg (p.e.win ⟨a', l', c'⟩).toArray)) _ _ _ _ _ e58' e63 ?_
  refine (leq_any p.e.fund p.e.id p.e.side p.e.gb p.e.ofv p.e.cin p.e.group p.e.cause (statusOf p.e.st) s.a a' s.l s.c l' c' p.e.floor p.e.cd (addW p.e.seen) (addE p.e.seen) (addW p.e.dead) (addE p.e.dead) p.ss lo _ _ hg.len (hs.below hB1) hsl (hn.trans (isNone_of hg.sel hsl hnl).symm)).mono ?_
  rintro e w2 ⟨rfl, hb2⟩
  have hB2 : Below wr.heap.size wr w2 := hB1.trans (hb2.mono hB1.size)
  refine hK.out _ _ hB2 (fun hH2 => ?_)
  clear hK K
  refine wpAnyH_take (i := 10) (oi := ⟨some 65, .unOp .not 4 (.tmp 64), 4, ps, #[⟨9, .data⟩], none⟩) (v := .bool false) rfl (by kernel_rfl) (by kernel_rfl) (by kernel_rfl) (fun _ _ _ h => h) (.inl ⟨rfl, fun w _ => ?_⟩) hH2 ?_
  · have e64 : ((a8.put (some 63) (.agg (p.e.win ⟨a', l', c'⟩).toArray)).put (some 64) (.bool true)).eval (.tmp 64) = .bool true := eval_same _ _ _ (by omega)
    show (execOp ((a8.put (some 63) (.agg (p.e.win ⟨a', l', c'⟩).toArray)).put (some 64) (.bool true)).eval _).run _ _ = _
    simp only [execOp, e64]
    rfl
  · refine wpAnyH_done (by kernel_rfl) ?_ _
    exact NoPanic.normal (hQ w2 ⟨a', l', c'⟩ hB2)

end Go.Proofs.Ybulkdsbq
