import Derived.Test.YbulkdscsDoorW
namespace Go.Proofs.YbulkdscsDoor
open Go.RowKit
set_option maxRecDepth 100000
set_option maxHeartbeats 2000000

theorem key_l {K D : List Int} {l d : Value} (hn : (K ++ D).Nodup) (j : Nat) (hj : j < (K ++ D).length) :
    ((K.map (fun _ => l) ++ D.map fun _ => d)[j]? = some l ∧ findP ((K ++ D).getD j 0) (D.map (·, d)) 0 = none ∧ j + 1 - K.length = j - K.length) ∨
    ((K.map (fun _ => l) ++ D.map fun _ => d)[j]? = some d ∧ (∃ p, findP ((K ++ D).getD j 0) (D.map (·, d)) 0 = some (p, d)) ∧ j + 1 - K.length = j - K.length + 1) := by
  have hkd : (D.map (·, d)).map Prod.fst = D := by simp [Function.comp_def]
  have hnn := List.nodup_append.1 hn
  by_cases hk : j < K.length
  · refine .inl ⟨by rw [List.getElem?_append_left (by simpa using hk)]; simp [hk], findP_none ?_, by omega⟩
    rw [hkd]
    have : (K ++ D).getD j 0 = K[j] := by simp [List.getD, List.getElem?_append_left hk, hk]
    rw [this]
    exact fun h => hnn.2.2 _ (List.getElem_mem hk) _ h rfl
  · have hd : j - K.length < D.length := by simp at hj; omega
    refine .inr ⟨by rw [List.getElem?_append_right (by simpa using hk)]; simp [hd], ⟨_, findP_at (D.map (·, d)) 0 (j - K.length) (by rw [hkd]; exact hnn.2.1) ?_⟩, by omega⟩
    simp [List.getD, List.getElem?_append_right (Nat.le_of_not_lt hk), hd]
theorem key_d {K D : List Int} {l d : Value} (hn : (K ++ D).Nodup) (j : Nat) (hj : j < (K ++ D).length) :
    ((K.map (fun _ => l) ++ D.map fun _ => d)[j]? = some d ∧ findP ((K ++ D).getD j 0) (K.map (·, l)) 0 = none ∧ min (j + 1) K.length = min j K.length) ∨
    ((K.map (fun _ => l) ++ D.map fun _ => d)[j]? = some l ∧ (∃ p, findP ((K ++ D).getD j 0) (K.map (·, l)) 0 = some (p, l)) ∧ min (j + 1) K.length = min j K.length + 1) := by
  have hkd : (K.map (·, l)).map Prod.fst = K := by simp [Function.comp_def]
  have hnn := List.nodup_append.1 hn
  by_cases hk : j < K.length
  · refine .inr ⟨by rw [List.getElem?_append_left (by simpa using hk)]; simp [hk], ⟨_, findP_at (K.map (·, l)) 0 j (by rw [hkd]; exact hnn.1) ?_⟩, by omega⟩
    simp [List.getD, List.getElem?_append_left hk, hk]
  · have hd : j - K.length < D.length := by simp at hj; omega
    refine .inl ⟨by rw [List.getElem?_append_right (by simpa using hk)]; simp [hd], findP_none ?_, by omega⟩
    rw [hkd]
    have : (K ++ D).getD j 0 = D[j - K.length] := by simp [List.getD, List.getElem?_append_right (Nat.le_of_not_lt hk), hd]
    rw [this]
    exact fun h => hnn.2.2 _ h _ (List.getElem_mem hd) rfl

theorem blk {w w' : World} {b : Nat} {o : Obj} (hB : Below w.heap.size w w') (h : w.heap[b]? = some o) : w'.heap[b]? = some o := (hB.block b (Array.getElem?_eq_some_iff.1 h).1).trans h
theorem blkB {w w' : World} {S : List Nat} {b : Nat} {o : Obj} (hB : But S w w') (hn : b ∉ S) (h : w.heap[b]? = some o) : w'.heap[b]? = some o := (hB.block b (Array.getElem?_eq_some_iff.1 h).1 hn).trans h
theorem cellW {w w' : World} {a : Addr} {x : Value} (hB : Below w.heap.size w w') (h : w.cell? a = some x) : w'.cell? a = some x := (hB.cell (World.block_lt_of_cell? w _ h)).trans h
theorem But.toBelow {S : List Nat} {w w' : World} {B : Nat} (h : But S w w') (hB : B ≤ w.heap.size) (hS : ∀ x ∈ S, B ≤ x) : Below B w w' :=
  ⟨h.os, h.tape, h.output, h.size, fun k hk => h.block k (by omega) (fun hm => by have := hS k hm; omega)⟩
theorem SuccsIs.below {B : Nat} {w w' : World} {sv : Value} (h : SuccsIs B w sv) (hB : Below w.heap.size w w') : SuccsIs B w' sv := by
  rcases h with h | ⟨b, n, c, h1, h2, h3, h4, h5⟩
  · exact .inl h
  · refine .inr ⟨b, n, c, h1, h2, h3, Nat.lt_of_lt_of_le h4 hB.size, fun j hj => ?_⟩
    obtain ⟨v, z, pt, h⟩ := h5 j hj
    exact ⟨v, z, pt, fun t x hx => cellW hB (h t x hx)⟩
theorem PathIs.below {B : Nat} {w w' : World} {sv : Value} (h : PathIs B w sv) (hB : Below w.heap.size w w') : PathIs B w' sv := by
  rcases h with h | ⟨b, n, c, h1, h2, h3, h4, h5⟩
  · exact .inl h
  · exact .inr ⟨b, n, c, h1, h2, h3, Nat.lt_of_lt_of_le h4 hB.size, fun j hj t x hx => cellW hB (h5 j hj t x hx)⟩
theorem SuccsIs.but {B : Nat} {w w' : World} {S : List Nat} {sv : Value} (h : SuccsIs B w sv) (hB : But S w w') (hS : ∀ x ∈ S, x < B) : SuccsIs B w' sv := by
  rcases h with h | ⟨b, n, c, h1, h2, h3, h4, h5⟩
  · exact .inl h
  · refine .inr ⟨b, n, c, h1, h2, h3, Nat.lt_of_lt_of_le h4 hB.size, fun j hj => ?_⟩
    obtain ⟨v, z, pt, h⟩ := h5 j hj
    exact ⟨v, z, pt, fun t x hx => (hB.cell h4 (fun hm => by have := hS b hm; omega)).trans (h t x hx)⟩
theorem PathIs.but {B : Nat} {w w' : World} {S : List Nat} {sv : Value} (h : PathIs B w sv) (hB : But S w w') (hS : ∀ x ∈ S, x < B) : PathIs B w' sv := by
  rcases h with h | ⟨b, n, c, h1, h2, h3, h4, h5⟩
  · exact .inl h
  · exact .inr ⟨b, n, c, h1, h2, h3, Nat.lt_of_lt_of_le h4 hB.size, fun j hj t x hx => (hB.cell h4 (fun hm => by have := hS b hm; omega)).trans (h5 j hj t x hx)⟩

/-- The letters of the state in which routed is called. -/
structure St where
  i : In
  g : Nat
  s : Nat
  ab : Nat
  la : Option Addr
  ll : Nat
  lc : Nat
  da : Option Addr
  dl : Nat
  dc : Nat
  L : List Int
  K : List Int
  D : List Int
  kv : Value
  ow : Value
  v : Int
  zz : Option Addr
  pt : Int
  va : Int
  za : Addr
  xa : Option Addr
  xl : Nat
  xc : Nat
  ya : Option Addr
  yl : Nat
  yc : Nat

/-- The heap when routed is called. -/
structure Ready (q : St) (w : World) : Prop where
  made : Made q.g q.i.ov q.i.wait q.la q.ll q.lc q.da q.dl q.dc w
  rowL : RowIs .u32 w (.slice q.la q.ll q.lc) q.L
  rowD : RowIs .u32 w (.slice q.da q.dl q.dc) q.D
  map : MapIs w (q.g + 8) (pairs q.K q.D (.pointer (some ⟨q.g + 6, 0, none⟩)) (.pointer (some ⟨q.g + 7, 0, none⟩)))
  two : TwoRows (q.g + 8 + 1) q.kv q.ow (q.K ++ q.D) (q.K.map (fun _ => (.pointer (some ⟨q.g + 6, 0, none⟩) : Value)) ++ q.D.map fun _ => (.pointer (some ⟨q.g + 7, 0, none⟩) : Value)) w
  env : w.heap[q.s]? = some (.cells #[.slice none 0 0, .int .i64 0] 60 (0, 0))
  node1 : w.cell? ⟨q.s + 1, 23, none⟩ = some (.iface 57 (.pointer (some ⟨q.s, 0, none⟩)))
  node2 : w.cell? ⟨q.s + 1, 213, none⟩ = some (.map (some (q.g + 8)))
  own : w.heap[q.s + 2]? = some (.cells (peer q.v q.zz q.pt) 41 (0, 0))
  adr : w.heap[q.ab]? = some (.cells #[.int .u64 0, .int .u64 q.va, .pointer (some q.za), .int .u16 q.i.ap] 39 (0, 0))
  succs : SuccsIs (q.s + 3) w (.slice q.xa q.xl q.xc)
  path : PathIs (q.s + 3) w (.slice q.ya q.yl q.yc)

theorem Ready.below {q : St} {w w' : World} (h : Ready q w) (hB : Below w.heap.size w w') : Ready q w' := by
  obtain ⟨CL, l1, l2⟩ := h.made.tl
  obtain ⟨CD, d1, d2⟩ := h.made.td
  exact ⟨⟨⟨blk hB h.made.vars.b0, blk hB h.made.vars.b1, blk hB h.made.vars.b2, blk hB h.made.vars.b3, blk hB h.made.vars.b4, blk hB h.made.vars.b5⟩, ⟨CL, blk hB l1, l2⟩, ⟨CD, blk hB d1, d2⟩⟩,
    h.rowL.below hB, h.rowD.below hB, h.map.below hB, ⟨owns_keep h.two.keys fun k hk => hB.block k (owns_lt h.two.keys k hk).2, owns_keep h.two.owns fun k hk => hB.block k (owns_lt h.two.owns k hk).2⟩,
    blk hB h.env, cellW hB h.node1, cellW hB h.node2, blk hB h.own, blk hB h.adr, h.succs.below hB, h.path.below hB⟩

/-- What holds of the letters. -/
structure Plain (q : St) : Prop where
  bL : ∀ x, q.la = some x → x.block < q.g
  bD : ∀ x, q.da = some x → x.block < q.g
  bk : ∀ k, q.kv.ownBlock = some k → k < q.s
  bo : ∀ k, q.ow.ownBlock = some k → k < q.s
  gs : q.g + 9 ≤ q.s
  sab : q.s + 3 ≤ q.ab
  zz : q.zz = none → q.v = 0 ∧ q.pt = 0
  nd : (q.K ++ q.D).Nodup
  kl : ∀ y, y ∈ q.K ↔ y ∈ q.L
  dl' : ∀ y ∈ q.D, y ∉ q.L
  lenL : q.L.length ≤ 4097
  lenK : q.K.length ≤ 4097
  lenD : q.D.length ≤ 4096

def St.fr (q : St) (tg : Option Addr) (more : List (Nat × Value)) : List (Nat × Value) :=
  q.i.fr (mid q.g q.la q.ll q.lc q.da q.dl q.dc ((40, q.kv) :: (41, q.ow) :: (46, .pointer tg) :: (48, .pointer (some ⟨q.s, 0, none⟩)) :: (49, .pointer (some ⟨q.s + 1, 0, none⟩)) :: (50, .pointer (some ⟨q.s + 2, 0, none⟩)) :: (51, .pointer (some ⟨q.ab, 0, none⟩)) :: (52, .slice q.xa q.xl q.xc) :: (55, .slice q.ya q.yl q.yc) :: more))

theorem fst_pairs (K D : List Int) (l d : Value) : (pairs K D l d).map Prod.fst = K ++ D := pairs_keys K D l d
theorem snd_pairs (K D : List Int) (l d : Value) : (pairs K D l d).map Prod.snd = K.map (fun _ => l) ++ D.map fun _ => d := by simp [pairs, Function.comp_def]

/-- The tail where nothing settles. -/
theorem tail_n (q : St) (hp : Plain q) (tg : Option Addr) (htg : tg = none ∨ tg = some ⟨q.g + 6, 0, none⟩ ∨ tg = some ⟨q.g + 7, 0, none⟩) (hst : settles tg q.g q.i.ov = false) (l : List Value) (w : World) (hr : Ready q w) (Q : Exit → Act → World → Prop)
    (hf : Fr l (q.fr tg [])) (hQ : ∀ l' w', Fr l' [(24, .bool true)] → Below w.heap.size w w' → Q .ret ⟨l'.toArray, []⟩ w') : (dropS 35 (bodyOf Ybad.f3)).wp Ybad.prog Q ⟨l.toArray, []⟩ w := by
  obtain ⟨CL, l1, l2⟩ := hr.made.tl
  obtain ⟨CD, d1, d2⟩ := hr.made.td
  refine st35 q.i l q.g q.la q.da q.ll q.lc q.dl q.dc q.kv q.ow _ _ _ _ tg q.s (q.s + 2) w Q hf (cell_blk hr.env 1) htg ⟨CL, l1⟩ ⟨CD, d1⟩ ?_
  intro l2' hf2
  rw [hst] at hf2
  refine st37n q.i l2' q.g q.la q.da q.ll q.lc q.dl q.dc q.kv q.ow _ _ _ _ tg q.s (q.s + 2) (q.g + 8 + 1) (q.K ++ q.D) _ _ w Q hf2 (cell_blk hr.made.vars.b0 0) (cell_blk hr.env 0) ((cell_blk l1 25).trans l2.over) ((cell_blk d1 25).trans d2.over) hr.map (fst_pairs _ _ _ _) (snd_pairs _ _ _ _) hp.nd ?_ hr.two ?_ hQ
  · intro x hx
    simp only [List.mem_append, List.mem_map] at hx
    rcases hx with ⟨_, _, rfl⟩ | ⟨_, _, rfl⟩
    · exact ⟨_, rfl⟩
    · exact ⟨_, rfl⟩
  · have h1 := hp.lenK
    have h2 := hp.lenD
    simp only [List.length_append]
    omega

/-- No lookup has the key. -/
theorem back_none (q : St) (hp : Plain q) (l : List Value) (w : World) (hr : Ready q w) (Q : Exit → Act → World → Prop) (hn : q.i.r ∉ q.K ++ q.D)
    (hf : Fr l (q.fr none [])) (hQ : ∀ l' w', Fr l' [(24, .bool true)] → Below w.heap.size w w' → Q .ret ⟨l'.toArray, []⟩ w') : (dropS 33 (bodyOf Ybad.f3)).wp Ybad.prog Q ⟨l.toArray, []⟩ w := by
  refine st33 q.i l q.g q.la q.da q.ll q.lc q.dl q.dc q.kv q.ow _ _ q.xa q.ya q.xl q.xc q.yl q.yc (q.s + 2) q.ab (q.s + 1) q.v q.zz q.pt q.va (some q.za) w Q (fun w1 w' => Below w1.heap.size w1 w') hf hr.own hr.adr (fun w1 hb => ?_) (fun l' w1 w' hf' hb1 hb2 => ?_)
  · have hr1 := hr.below hb
    exact routed_none (q.s + 1) (q.g + 8) _ q.i.r q.va (some q.za) q.i.ap q.v q.zz q.pt _ _ _ w1 hr1.node2 hr1.map (findP_none (by rw [fst_pairs]; exact hn))
  · exact tail_n q hp none (.inl rfl) rfl l' w' ((hr.below hb1).below hb2) Q hf' fun l3 w3 h3 hb3 => hQ l3 w3 h3 ((hb1.trans (hb2.mono hb1.size)).trans (hb3.mono (Nat.le_trans hb1.size hb2.size)))

theorem find_l (q : St) (hp : Plain q) (hr : q.i.r ∈ q.K) : ∃ j, findP q.i.r (pairs q.K q.D (.pointer (some ⟨q.g + 6, 0, none⟩)) (.pointer (some ⟨q.g + 7, 0, none⟩))) 0 = some (j, .pointer (some ⟨q.g + 6, 0, none⟩)) := by
  obtain ⟨j, hj, he⟩ := List.mem_iff_getElem.1 hr
  have := findP_at (k := q.i.r) (v := .pointer (some ⟨q.g + 6, 0, none⟩)) (pairs q.K q.D (.pointer (some ⟨q.g + 6, 0, none⟩)) (.pointer (some ⟨q.g + 7, 0, none⟩))) 0 j (by rw [fst_pairs]; exact hp.nd) (by unfold pairs; rw [List.getElem?_append_left (by simpa using hj)]; simp [hj, he])
  exact ⟨_, this⟩
theorem find_d (q : St) (hp : Plain q) (hr : q.i.r ∈ q.D) : ∃ j, findP q.i.r (pairs q.K q.D (.pointer (some ⟨q.g + 6, 0, none⟩)) (.pointer (some ⟨q.g + 7, 0, none⟩))) 0 = some (j, .pointer (some ⟨q.g + 7, 0, none⟩)) := by
  obtain ⟨j, hj, he⟩ := List.mem_iff_getElem.1 hr
  have := findP_at (k := q.i.r) (v := .pointer (some ⟨q.g + 7, 0, none⟩)) (pairs q.K q.D (.pointer (some ⟨q.g + 6, 0, none⟩)) (.pointer (some ⟨q.g + 7, 0, none⟩))) 0 (q.K.length + j) (by rw [fst_pairs]; exact hp.nd) (by unfold pairs; rw [List.getElem?_append_right (by simp)]; simp [hj, he])
  exact ⟨_, this⟩

theorem setting_of {q : St} {w : World} (h : Ready q w) {T f : Nat} {ov : Bool} {ra : Option Addr} {rl rc : Nat} {wait : Int} {C : Array Value} (hT : w.heap[T]? = some (.cells C 53 (0, 0))) (hC : Look C f q.g ov ra rl rc wait) :
    Setting (q.s + 1) q.s (q.g + 8) T f q.g ov ra rl rc wait w :=
  ⟨h.node1, h.node2, (cell_blk hT 24).trans hC.done, (cell_blk hT 25).trans hC.over, (cell_blk hT 26).trans hC.refs, (cell_blk hT 28).trans hC.wait, free_blk hT 25, ⟨C, hT⟩⟩

/-- The lookup l has the key and is over already. -/
theorem back_over (q : St) (hp : Plain q) (l : List Value) (w : World) (hr : Ready q w) (Q : Exit → Act → World → Prop) (hk : q.i.r ∈ q.K) (hov : q.i.ov = true)
    (hf : Fr l (q.fr (some ⟨q.g + 6, 0, none⟩) [])) (hQ : ∀ l' w', Fr l' [(24, .bool true)] → Below w.heap.size w w' → Q .ret ⟨l'.toArray, []⟩ w') : (dropS 33 (bodyOf Ybad.f3)).wp Ybad.prog Q ⟨l.toArray, []⟩ w := by
  obtain ⟨j, hj⟩ := find_l q hp hk
  refine st33 q.i l q.g q.la q.da q.ll q.lc q.dl q.dc q.kv q.ow _ _ q.xa q.ya q.xl q.xc q.yl q.yc (q.s + 2) q.ab (q.s + 1) q.v q.zz q.pt q.va (some q.za) w Q (fun w1 w' => ∃ e w2, Below w1.heap.size w1 w2 ∧ ErrIs w1 q.va (some q.za) q.i.ap q.zz (.string q.i.tx) e w2 ∧ Below w2.heap.size w2 w') hf hr.own hr.adr (fun w1 hb => ?_) ?_
  · have hr1 := hr.below hb
    refine routed_some (q.s + 1) (q.g + 8) (q.g + 6) _ j q.i.r q.va (some q.za) q.i.ap q.v q.zz q.pt hp.zz _ _ q.i.tx w1 hr1.node2 hr1.map hj (fun _ w2 w' => Below w2.heap.size w2 w') (fun e w2 hb2 he => ?_)
    have hr2 := hr1.below hb2
    obtain ⟨CL, l1, l2⟩ := hr2.made.tl
    rw [hov] at l2
    exact settle_over (q.s + 1) q.s (q.g + 8) (q.g + 6) 5 q.g q.la q.ll q.lc q.i.wait q.v q.zz q.pt _ _ e w2 (setting_of hr2 l1 l2)
  · rintro l' w1 w' hf' hb1 ⟨e, w2, hb2, _, hb3⟩
    have hb12 := hb1.trans (hb2.mono hb1.size)
    have hb := hb12.trans (hb3.mono hb12.size)
    exact tail_n q hp _ (.inr (.inl rfl)) (by simp [settles, hov]) l' w' (hr.below hb) Q hf' fun l3 w3 h3 hb4 => hQ l3 w3 h3 (hb.trans (hb4.mono hb.size))


end Go.Proofs.YbulkdscsDoor
