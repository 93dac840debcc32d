import Derived.Test.YbulkdscsDoorY
namespace Go.Proofs.YbulkdscsDoor
open Go.RowKit
set_option maxRecDepth 100000
set_option maxHeartbeats 2000000

/-- The lookup l has the key and settles. -/
theorem back_l (q : St) (hp : Plain q) (l : List Value) (w : World) (hr : Ready q w) (Q : Exit → Act → World → Prop) (hk : q.i.r ∈ q.K) (hov : q.i.ov = false) (B : Nat) (hBg : B ≤ q.g)
    (hf : Fr l (q.fr (some ⟨q.g + 6, 0, none⟩) [])) (hQ : ∀ l' w', Fr l' [(24, .bool true)] → Below B w w' → Q .ret ⟨l'.toArray, []⟩ w') : (dropS 33 (bodyOf Ybad.f3)).wp Ybad.prog Q ⟨l.toArray, []⟩ w := by
  obtain ⟨j, hj⟩ := find_l q hp hk
  have hgs := hp.gs
  have hsab := hp.sab
  refine st33 q.i l q.g q.la q.da q.ll q.lc q.dl q.dc q.kv q.ow _ _ q.xa q.ya q.xl q.xc q.yl q.yc (q.s + 2) q.ab (q.s + 1) q.v q.zz q.pt q.va (some q.za) w Q (fun w1 w' => ∃ e w2, Below w1.heap.size w1 w2 ∧ ErrIs w1 q.va (some q.za) q.i.ap q.zz (.string q.i.tx) e w2 ∧ Settled q.s (q.g + 8) (q.g + 6) q.g (pairs q.K q.D (.pointer (some ⟨q.g + 6, 0, none⟩)) (.pointer (some ⟨q.g + 7, 0, none⟩))) q.L q.i.wait 1 (peer q.v q.zz q.pt) (.slice q.xa q.xl q.xc) (.slice q.ya q.yl q.yc) e w2 w') hf hr.own hr.adr (fun w1 hb => ?_) ?_
  · have hr1 := hr.below hb
    refine routed_some (q.s + 1) (q.g + 8) (q.g + 6) _ j q.i.r q.va (some q.za) q.i.ap q.v q.zz q.pt hp.zz _ _ q.i.tx w1 hr1.node2 hr1.map hj (fun e w2 w' => Settled q.s (q.g + 8) (q.g + 6) q.g (pairs q.K q.D (.pointer (some ⟨q.g + 6, 0, none⟩)) (.pointer (some ⟨q.g + 7, 0, none⟩))) q.L q.i.wait 1 (peer q.v q.zz q.pt) (.slice q.xa q.xl q.xc) (.slice q.ya q.yl q.yc) e w2 w') (fun e w2 hb2 he => ?_)
    have hr2 := hr1.below hb2
    obtain ⟨CL, l1, l2⟩ := hr2.made.tl
    rw [hov] at l2
    have hlL := hp.lenL
    have hlD := hp.lenD
    have he' : e = .nilIface ∨ ∃ x, e = .iface 122 (.pointer (some x)) := by
      rcases he with ⟨h, _⟩ | ⟨_, x, h, _⟩
      · exact .inl h
      · exact .inr ⟨_, h⟩
    refine settle_l (q.s + 1) q.s (q.g + 8) (q.g + 6) q.g q.la q.ll q.lc q.L q.i.wait q.v q.zz q.pt q.xa q.xl q.xc q.ya q.yl q.yc e he' _ _ _ _ _ _ _ _ _ _ _ w2 (setting_of hr2 l1 l2) hr2.env ?_ hr2.map hr2.made.vars hr2.rowL (by omega) ?_
    · refine ⟨by omega, by omega, by omega, by omega, by omega, by omega, fun x hx => ?_⟩
      simp [six] at hx
      omega
    · intro x hx
      have := hp.bL x hx
      omega
  · rintro l' w1 w' hf' hb1 ⟨e, w2, hb2, herr, hS⟩
    have hb12 := hb1.trans (hb2.mono hb1.size)
    have hr2 := hr.below hb12
    have hlt : q.s + 2 < w1.heap.size := Nat.lt_of_lt_of_le (Array.getElem?_eq_some_iff.1 hr.own).1 hb1.size
    have hlt2 : q.g + 8 < w2.heap.size := hr2.map.lt
    have nin : ∀ x, x ≠ q.g + 6 → x ≠ q.s → x ≠ q.g + 8 → (x < q.g ∨ q.g + 5 < x) → x ∉ ((q.g + 6) :: q.s :: (q.g + 8) :: six q.g) := by
      intro x h1 h2 h3 h4 hx
      simp [six] at hx
      omega
    have big : ∀ x ∈ ((q.g + 6) :: q.s :: (q.g + 8) :: six q.g), x < q.s + 3 := by
      intro x hx
      simp [six] at hx
      omega
    have small : ∀ x ∈ ((q.g + 6) :: q.s :: (q.g + 8) :: six q.g), B ≤ x := by
      intro x hx
      simp [six] at hx
      omega
    have hBut := hS.but
    obtain ⟨CO, o1, o2⟩ := hr2.made.td
    have o1' : w'.heap[q.g + 7]? = some (.cells CO 53 (0, 0)) := blkB hBut (nin _ (by omega) (by omega) (by omega) (by omega)) o1
    have own' := blkB hBut (nin _ (by omega) (by omega) (by omega) (by omega)) hr2.own
    have adr' := blkB hBut (nin _ (by omega) (by omega) (by omega) (by omega)) hr2.adr
    have suc' := hr2.succs.but hBut big
    have pat' := hr2.path.but hBut big
    have two' : TwoRows (q.g + 8 + 1) q.kv q.ow (q.K ++ q.D) (q.K.map (fun _ => (.pointer (some ⟨q.g + 6, 0, none⟩) : Value)) ++ q.D.map fun _ => (.pointer (some ⟨q.g + 7, 0, none⟩) : Value)) w' :=
      ⟨owns_keep hr2.two.keys fun k hk => by
          have h1 := owns_lt hr2.two.keys k hk
          have h2 := hp.bk k hk
          exact hBut.block k h1.2 (nin _ (by omega) (by omega) (by omega) (by omega)),
        owns_keep hr2.two.owns fun k hk => by
          have h1 := owns_lt hr2.two.owns k hk
          have h2 := hp.bo k hk
          exact hBut.block k h1.2 (nin _ (by omega) (by omega) (by omega) (by omega))⟩
    have map' : MapIs w' (q.g + 8) (q.D.map (·, (.pointer (some ⟨q.g + 7, 0, none⟩) : Value))) := by
      have h := hS.map
      rw [del_l hp.nd (fun y hy => (hp.kl y).1 hy) hp.dl'] at h
      exact h
    have hoth : w'.cell? ⟨q.s, 1, none⟩ = some (.int .i64 0) := by
      rcases hS.stops with ⟨_, h⟩ | ⟨_, _, _, h, _⟩
      · exact cell_blk h 1
      · exact cell_blk h 1
    have hbB : Below B w w' := (hb12.mono (by have := hr.map.lt; omega)).trans (hBut.toBelow (by omega) small)
    refine st35 q.i l' q.g q.la q.da q.ll q.lc q.dl q.dc q.kv q.ow _ _ _ _ (some ⟨q.g + 6, 0, none⟩) q.s (q.s + 2) w' Q hf' hoth (.inr (.inl rfl)) hS.tblk ⟨CO, o1'⟩ ?_
    intro l3 hf3
    rw [show settles (some ⟨q.g + 6, 0, none⟩) q.g q.i.ov = true by simp [settles, hov]] at hf3
    refine st37l q.i l3 q.g q.la q.da q.ll q.lc q.dl q.dc q.kv q.ow _ _ _ _ q.s (q.s + 2) w' Q hf3 (cell_blk hS.vars.b0 0) (cell_blk hS.vars.b1 0) hS.over ((cell_blk o1' 25).trans o2.over) ?_ ?_
    · rcases hS.stops with ⟨h0, h⟩ | ⟨h0, b, c, h, h2, _⟩
      · exact .inl ⟨h0, cell_blk h 0⟩
      · exact .inr ⟨h0, b, c, cell_blk h 0, h2⟩
    intro l4 hf4
    refine st42 q.i l4 q.g q.la q.da q.ll q.lc q.dl q.dc q.kv q.ow _ _ _ _ (q.g + 6) (q.g + 7) q.s (q.s + 2) (q.g + 8 + 1) (q.K ++ q.D) (q.K.map (fun _ => (.pointer (some ⟨q.g + 6, 0, none⟩) : Value)) ++ q.D.map fun _ => (.pointer (some ⟨q.g + 7, 0, none⟩) : Value)) (q.D.map (·, (.pointer (some ⟨q.g + 7, 0, none⟩) : Value))) (fun j => j - q.K.length) w' Q hf4 (by omega) hS.tblk ⟨CO, o1'⟩ map' two' ?_ (by simp) (fun j => Nat.sub_le _ _) (fun j hj => key_l hp.nd j hj) ?_
    · have h1 := hp.lenK
      have h2 := hp.lenD
      simp only [List.length_append]
      omega
    intro l5 hf5
    refine st44 q.i l5 q.g q.la q.da q.ll q.lc q.dl q.dc q.kv q.ow _ _ _ _ _ (q.s + 2) q.ab (q.D.map (·, (.pointer (some ⟨q.g + 7, 0, none⟩) : Value))) ((fun j => j - q.K.length) (q.K ++ q.D).length) q.v q.zz q.pt w' Q hf5 map' ?_ own' hS.vars.b2 hp.zz ?_
    · simp only [List.length_map, List.length_append]
      omega
    intro l6 hf6
    refine st46 q.i l6 q.g q.la q.da q.ll q.lc q.dl q.dc q.kv q.ow _ _ _ _ _ (q.s + 2) q.ab (q.s + 3) w' Q hf6 suc' (cell_blk hS.vars.b3 0) ?_
    intro l7 w7 hf7 hb7
    refine st47 q.i l7 q.g q.la q.da q.ll q.lc q.dl q.dc q.kv q.ow _ _ _ _ _ (q.s + 2) q.ab (q.s + 3) w7 Q hf7 (pat'.below hb7) (cellW hb7 (cell_blk hS.vars.b4 0)) ?_
    intro l8 w8 hf8 hb8
    have hb78 := hb7.trans (hb8.mono hb7.size)
    refine st48 q.i l8 q.g q.la q.da q.ll q.lc q.dl q.dc q.kv q.ow _ _ _ _ _ (q.s + 2) q.ab q.v q.zz q.pt q.va q.za e w8 Q hf8 (blk hb78 own') hp.zz (blk hb78 adr') (cellW hb78 (cell_blk hS.vars.b5 0)) ?_ ?_
    · rcases herr with h | ⟨h0, x, h1, h2, h3⟩
      · exact .inl h
      · exact .inr ⟨h0, x, h1, blk hb78 (blkB hBut (nin _ (by omega) (by omega) (by omega) (by omega)) h3)⟩
    · intro l9 w9 h9 hb9
      refine hQ l9 w9 h9 (hbB.trans ((hb78.trans (hb9.mono hb78.size)).mono ?_))
      have := hBut.size
      omega

/-- The lookup decoy has the key and settles. -/
theorem back_d (q : St) (hp : Plain q) (l : List Value) (w : World) (hr : Ready q w) (Q : Exit → Act → World → Prop) (hk : q.i.r ∈ q.D) (B : Nat) (hBg : B ≤ q.g)
    (hf : Fr l (q.fr (some ⟨q.g + 7, 0, none⟩) [])) (hQ : ∀ l' w', Fr l' [(24, .bool true)] → Below B w w' → Q .ret ⟨l'.toArray, []⟩ w') : (dropS 33 (bodyOf Ybad.f3)).wp Ybad.prog Q ⟨l.toArray, []⟩ w := by
  obtain ⟨j, hj⟩ := find_d q hp hk
  have hgs := hp.gs
  have hsab := hp.sab
  refine st33 q.i l q.g q.la q.da q.ll q.lc q.dl q.dc q.kv q.ow _ _ q.xa q.ya q.xl q.xc q.yl q.yc (q.s + 2) q.ab (q.s + 1) q.v q.zz q.pt q.va (some q.za) w Q (fun w1 w' => ∃ e w2, Below w1.heap.size w1 w2 ∧ ErrIs w1 q.va (some q.za) q.i.ap q.zz (.string q.i.tx) e w2 ∧ Settled q.s (q.g + 8) (q.g + 7) q.g (pairs q.K q.D (.pointer (some ⟨q.g + 6, 0, none⟩)) (.pointer (some ⟨q.g + 7, 0, none⟩))) q.D 0 2 (peer q.v q.zz q.pt) (.slice q.xa q.xl q.xc) (.slice q.ya q.yl q.yc) e w2 w') hf hr.own hr.adr (fun w1 hb => ?_) ?_
  · have hr1 := hr.below hb
    refine routed_some (q.s + 1) (q.g + 8) (q.g + 7) _ j q.i.r q.va (some q.za) q.i.ap q.v q.zz q.pt hp.zz _ _ q.i.tx w1 hr1.node2 hr1.map hj (fun e w2 w' => Settled q.s (q.g + 8) (q.g + 7) q.g (pairs q.K q.D (.pointer (some ⟨q.g + 6, 0, none⟩)) (.pointer (some ⟨q.g + 7, 0, none⟩))) q.D 0 2 (peer q.v q.zz q.pt) (.slice q.xa q.xl q.xc) (.slice q.ya q.yl q.yc) e w2 w') (fun e w2 hb2 he => ?_)
    have hr2 := hr1.below hb2
    obtain ⟨CL, l1, l2⟩ := hr2.made.td
    have hlL := hp.lenL
    have hlD := hp.lenD
    have he' : e = .nilIface ∨ ∃ x, e = .iface 122 (.pointer (some x)) := by
      rcases he with ⟨h, _⟩ | ⟨_, x, h, _⟩
      · exact .inl h
      · exact .inr ⟨_, h⟩
    refine settle_d (q.s + 1) q.s (q.g + 8) (q.g + 7) q.g q.da q.dl q.dc q.D 0 q.v q.zz q.pt q.xa q.xl q.xc q.ya q.yl q.yc e he' _ _ _ _ _ _ _ _ _ _ _ w2 (setting_of hr2 l1 l2) hr2.env ?_ hr2.map hr2.made.vars hr2.rowD (by omega) ?_
    · refine ⟨by omega, by omega, by omega, by omega, by omega, by omega, fun x hx => ?_⟩
      simp [six] at hx
      omega
    · intro x hx
      have := hp.bD x hx
      omega
  · rintro l' w1 w' hf' hb1 ⟨e, w2, hb2, herr, hS⟩
    have hb12 := hb1.trans (hb2.mono hb1.size)
    have hr2 := hr.below hb12
    have hlt : q.s + 2 < w1.heap.size := Nat.lt_of_lt_of_le (Array.getElem?_eq_some_iff.1 hr.own).1 hb1.size
    have hlt2 : q.g + 8 < w2.heap.size := hr2.map.lt
    have nin : ∀ x, x ≠ q.g + 7 → x ≠ q.s → x ≠ q.g + 8 → (x < q.g ∨ q.g + 5 < x) → x ∉ ((q.g + 7) :: q.s :: (q.g + 8) :: six q.g) := by
      intro x h1 h2 h3 h4 hx
      simp [six] at hx
      omega
    have big : ∀ x ∈ ((q.g + 7) :: q.s :: (q.g + 8) :: six q.g), x < q.s + 3 := by
      intro x hx
      simp [six] at hx
      omega
    have small : ∀ x ∈ ((q.g + 7) :: q.s :: (q.g + 8) :: six q.g), B ≤ x := by
      intro x hx
      simp [six] at hx
      omega
    have hBut := hS.but
    obtain ⟨CO, o1, o2⟩ := hr2.made.tl
    have o1' : w'.heap[q.g + 6]? = some (.cells CO 53 (0, 0)) := blkB hBut (nin _ (by omega) (by omega) (by omega) (by omega)) o1
    have own' := blkB hBut (nin _ (by omega) (by omega) (by omega) (by omega)) hr2.own
    have adr' := blkB hBut (nin _ (by omega) (by omega) (by omega) (by omega)) hr2.adr
    have suc' := hr2.succs.but hBut big
    have pat' := hr2.path.but hBut big
    have two' : TwoRows (q.g + 8 + 1) q.kv q.ow (q.K ++ q.D) (q.K.map (fun _ => (.pointer (some ⟨q.g + 6, 0, none⟩) : Value)) ++ q.D.map fun _ => (.pointer (some ⟨q.g + 7, 0, none⟩) : Value)) w' :=
      ⟨owns_keep hr2.two.keys fun k hk => by
          have h1 := owns_lt hr2.two.keys k hk
          have h2 := hp.bk k hk
          exact hBut.block k h1.2 (nin _ (by omega) (by omega) (by omega) (by omega)),
        owns_keep hr2.two.owns fun k hk => by
          have h1 := owns_lt hr2.two.owns k hk
          have h2 := hp.bo k hk
          exact hBut.block k h1.2 (nin _ (by omega) (by omega) (by omega) (by omega))⟩
    have map' : MapIs w' (q.g + 8) (q.K.map (·, (.pointer (some ⟨q.g + 6, 0, none⟩) : Value))) := by
      have h := hS.map
      rw [del_d hp.nd] at h
      exact h
    have hoth : w'.cell? ⟨q.s, 1, none⟩ = some (.int .i64 0) := by
      rcases hS.stops with ⟨_, h⟩ | ⟨_, _, _, h, _⟩
      · exact cell_blk h 1
      · exact cell_blk h 1
    have hbB : Below B w w' := (hb12.mono (by have := hr.map.lt; omega)).trans (hBut.toBelow (by omega) small)
    refine st35 q.i l' q.g q.la q.da q.ll q.lc q.dl q.dc q.kv q.ow _ _ _ _ (some ⟨q.g + 7, 0, none⟩) q.s (q.s + 2) w' Q hf' hoth (.inr (.inr rfl)) ⟨CO, o1'⟩ hS.tblk ?_
    intro l3 hf3
    rw [show settles (some ⟨q.g + 7, 0, none⟩) q.g q.i.ov = true by simp [settles]] at hf3
    refine st37d q.i l3 q.g q.la q.da q.ll q.lc q.dl q.dc q.kv q.ow _ _ _ _ q.s (q.s + 2) w' Q hf3 (cell_blk hS.vars.b0 0) (cell_blk hS.vars.b1 0) ((cell_blk o1' 25).trans o2.over) hS.over ?_ ⟨CO, o1'⟩ hS.tblk ?_
    · rcases hS.stops with ⟨h0, h⟩ | ⟨h0, _⟩
      · exact cell_blk h 0
      · exact absurd rfl h0
    intro l4 hf4
    refine st42 q.i l4 q.g q.la q.da q.ll q.lc q.dl q.dc q.kv q.ow _ _ _ _ (q.g + 7) (q.g + 6) q.s (q.s + 2) (q.g + 8 + 1) (q.K ++ q.D) (q.K.map (fun _ => (.pointer (some ⟨q.g + 6, 0, none⟩) : Value)) ++ q.D.map fun _ => (.pointer (some ⟨q.g + 7, 0, none⟩) : Value)) (q.K.map (·, (.pointer (some ⟨q.g + 6, 0, none⟩) : Value))) (fun j => min j q.K.length) w' Q hf4 (by omega) hS.tblk ⟨CO, o1'⟩ map' two' ?_ (by simp) (fun j => Nat.min_le_left _ _) (fun j hj => key_d hp.nd j hj) ?_
    · have h1 := hp.lenK
      have h2 := hp.lenD
      simp only [List.length_append]
      omega
    intro l5 hf5
    refine st44 q.i l5 q.g q.la q.da q.ll q.lc q.dl q.dc q.kv q.ow _ _ _ _ _ (q.s + 2) q.ab (q.K.map (·, (.pointer (some ⟨q.g + 6, 0, none⟩) : Value))) ((fun j => min j q.K.length) (q.K ++ q.D).length) q.v q.zz q.pt w' Q hf5 map' ?_ own' hS.vars.b2 hp.zz ?_
    · simp only [List.length_map, List.length_append]
      omega
    intro l6 hf6
    refine st46 q.i l6 q.g q.la q.da q.ll q.lc q.dl q.dc q.kv q.ow _ _ _ _ _ (q.s + 2) q.ab (q.s + 3) w' Q hf6 suc' (cell_blk hS.vars.b3 0) ?_
    intro l7 w7 hf7 hb7
    refine st47 q.i l7 q.g q.la q.da q.ll q.lc q.dl q.dc q.kv q.ow _ _ _ _ _ (q.s + 2) q.ab (q.s + 3) w7 Q hf7 (pat'.below hb7) (cellW hb7 (cell_blk hS.vars.b4 0)) ?_
    intro l8 w8 hf8 hb8
    have hb78 := hb7.trans (hb8.mono hb7.size)
    refine st48 q.i l8 q.g q.la q.da q.ll q.lc q.dl q.dc q.kv q.ow _ _ _ _ _ (q.s + 2) q.ab q.v q.zz q.pt q.va q.za e w8 Q hf8 (blk hb78 own') hp.zz (blk hb78 adr') (cellW hb78 (cell_blk hS.vars.b5 0)) ?_ ?_
    · rcases herr with h | ⟨h0, x, h1, h2, h3⟩
      · exact .inl h
      · exact .inr ⟨h0, x, h1, blk hb78 (blkB hBut (nin _ (by omega) (by omega) (by omega) (by omega)) h3)⟩
    · intro l9 w9 h9 hb9
      refine hQ l9 w9 h9 (hbB.trans ((hb78.trans (hb9.mono hb78.size)).mono ?_))
      have := hBut.size
      omega


end Go.Proofs.YbulkdscsDoor
