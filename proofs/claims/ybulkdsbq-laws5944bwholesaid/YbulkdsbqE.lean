/-
  Contract: Carried (6).
-/
import Derived.Test.YbulkdsbqC
import Derived.Deep.MidRow
import Derived.Deep.WholeRow
namespace Go.Proofs.Ybulkdsbq
open Go.RowKit

/-- One argument's plain data, but for its slice of strings. -/
structure El where
  fund : ByteArray
  id : ByteArray
  side : ByteArray
  gb : ByteArray
  ofv : ByteArray
  floor : Bool
  cd : Int
  cin : ByteArray
  group : ByteArray
  seen : Int
  cause : ByteArray
  dead : Int
  st : Int

structure Sl where
  a : Option Addr
  l : Nat
  c : Nat

def Sl.v (s : Sl) : Value := .slice s.a s.l s.c

def El.cells (e : El) (s : Sl) : List Value :=
  [.string e.fund, .string e.id, .slice s.a s.l s.c, .string e.side, .string e.gb, .string e.ofv, .bool e.floor, .int .i64 e.cd, .string e.cin, .string e.group, .int .i64 e.seen, .string e.cause, .int .i64 e.dead, .int .u8 e.st]
def El.win (e : El) (s : Sl) : List Value :=
  [.string e.fund, .string e.id, .slice s.a s.l s.c, .string e.side, .string e.gb, .string e.ofv, .int .i64 0, .pointer none, .int .i64 0, .bool e.floor, .int .i64 e.cd, .string e.cin, .string e.group,
   .int .u64 (addW e.seen), .int .i64 (addE e.seen), .pointer none, .string e.cause, .int .u64 (addW e.dead), .int .i64 (addE e.dead), .pointer none, .string (statusOf e.st)]
def El.row (e : El) (s : Sl) : List Value :=
  [.string e.fund, .string e.id, .slice s.a s.l s.c, .string e.side, .string e.gb, .string e.ofv, .int .i64 0, .pointer none, .int .i64 0, .bool e.floor, .int .i64 e.cd, .string e.cin, .string e.group,
   .int .u64 (addW e.seen), .int .i64 (addE e.seen), .pointer none, .string e.cause]

def cured (p : El × Sl) : Bool := decide (p.1.st % 6 = 3)
def kept (es : List (El × Sl)) : List (El × Sl) := es.filter fun p => !cured p
def rows (es : List (El × Sl)) : List Value := (kept es).flatMap fun p => p.1.row p.2

theorem rows_length (es : List (El × Sl)) : (rows es).length = (kept es).length * 17 := by
  unfold rows
  induction kept es with
  | nil => rfl
  | cons p r ih => rw [List.flatMap_cons, List.length_append, ih]; simp [El.row]; omega

theorem Yba.info52 : (Yba.prog.info? 52).map (fun i => (i.zero, i.size, i.bytes)) = some (some (.agg #[.string .empty, .string .empty, .slice none 0 0, .string .empty, .string .empty, .string .empty, .int .i64 0, .pointer none, .int .i64 0, .bool false, .int .i64 0, .string .empty, .string .empty, .int .u64 0, .int .i64 0, .pointer none, .string .empty]), 17, 216) := by kernel_rfl
theorem Yba.size43 : (Yba.prog.info? 43).map (·.size) = some 21 := by kernel_rfl

theorem win_one (e : El) (s : Sl) : (e.win s).toArray.all (·.oneCell') = true := all_oneCell_toArray (List.all_eq_true.1 rfl)

theorem rangeAt_below {w w' : World} {b o : Nat} {cs : List Value} (h : w.rangeAt b o cs) (hb : Below w.heap.size w w') : w'.rangeAt b o cs := fun j v hv => by
  have := h j v hv
  rw [hb.cell (World.block_lt_of_cell? w _ this)]; exact this

theorem cured_true {p : El × Sl} (h : cured p = true) : ((statusOf p.1.st).toList == [99, 117, 114, 101, 100]) = true := by
  have h3 : p.1.st % 6 = 3 := by simpa [cured] using h
  simp [statusOf, h3]

theorem cured_false {p : El × Sl} (h : cured p = false) : ((statusOf p.1.st).toList == [99, 117, 114, 101, 100]) = false := by
  have h3 : ¬ p.1.st % 6 = 3 := by simpa [cured] using h
  unfold statusOf
  rw [if_neg h3]
  (repeat' split) <;> simp

theorem take_snoc {es : List (El × Sl)} {k : Nat} (hlt : k < es.length) {p : El × Sl} (hp : p = es[k]) : es.take (k + 1) = es.take k ++ [p] := by
  rw [List.take_succ_eq_append_getElem hlt, ← hp]

theorem kept_le (es : List (El × Sl)) (k : Nat) : (kept (es.take k)).length ≤ k := by
  unfold kept
  exact Nat.le_trans (List.length_filter_le _ _) (by simp; omega)

theorem kept_drop {es : List (El × Sl)} {k : Nat} (hlt : k < es.length) {p : El × Sl} (hp : p = es[k]) (hc : cured p = true) : kept (es.take (k + 1)) = kept (es.take k) := by
  rw [take_snoc hlt hp]; simp [kept, hc]
theorem kept_keep {es : List (El × Sl)} {k : Nat} (hlt : k < es.length) {p : El × Sl} (hp : p = es[k]) (hc : cured p = false) : kept (es.take (k + 1)) = kept (es.take k) ++ [p] := by
  rw [take_snoc hlt hp]; simp [kept, hc]

theorem rel_drop {w wr : World} {es : List (El × Sl)} {k : Nat} {v : Value} (hlt : k < es.length) {p : El × Sl} (hp : p = es[k]) (hc : cured p = true)
    (ho : wr.ownsRow w.heap.size 52 17 v (kept (es.take k)).length (rows (es.take k))) (hb : Below w.heap.size w wr) (hn : kept (es.take k) = [] → v = .slice none 0 0) (ob : Obj) :
    (wr.alloc ob).ownsRow w.heap.size 52 17 v (kept (es.take (k + 1))).length (rows (es.take (k + 1))) ∧ Below w.heap.size w (wr.alloc ob) ∧ (kept (es.take (k + 1)) = [] → v = .slice none 0 0) := by
  unfold rows at *
  rw [kept_drop hlt hp hc]
  exact ⟨ho.alloc _, hb.alloc hb.size _, hn⟩

theorem rel_keep {w wr w1 : World} {es : List (El × Sl)} {k : Nat} {v v' : Value} (hlt : k < es.length) {e : El} {s : Sl} (hp : (e, s) = es[k]) (hc : cured (e, s) = false) (hb : Below w.heap.size w wr)
    (ho : wr.ownsRow w.heap.size 52 17 v (kept (es.take k)).length (rows (es.take k))) {o1 o2 : Obj}
    (ho' : w1.ownsRow w.heap.size 52 17 v' ((kept (es.take k)).length + 1) (rows (es.take k) ++ e.row s)) (hg : ((wr.alloc o1).alloc o2).grownBy w1 v.ownBlock) :
    w1.ownsRow w.heap.size 52 17 v' (kept (es.take (k + 1))).length (rows (es.take (k + 1))) ∧ Below w.heap.size w w1 ∧ (kept (es.take (k + 1)) = [] → v' = .slice none 0 0) := by
  have e1 := kept_keep hlt hp hc
  refine ⟨?_, ?_, ?_⟩
  · unfold rows at *
    rw [e1]
    simpa using ho'
  · refine ((hb.alloc hb.size o1).alloc (by have := hb.size; simp; omega) o2).grown hg (by have := hb.size; simp; omega) ?_
    intro q hq
    rcases ho.2 with ⟨rfl, _⟩ | ⟨g, cap, cur, rfl, hgb, _⟩
    · simp [Value.ownBlock] at hq
    · simp [Value.ownBlock] at hq; omega
  · rw [e1]; simp

theorem ownsRow_alloc2 {w : World} {B e size : Nat} {v : Value} {n : Nat} {xs : List Value} (h : w.ownsRow B e size v n xs) (o1 o2 : Obj) : ((w.alloc o1).alloc o2).ownsRow B e size v n xs := (h.alloc _).alloc _

/-- A whole struct into the block that was made last. -/
theorem wpList_store_new {P : Program} {ops : Array Oper} {rest : List Oper} {op : Oper} {a : Act} {Q : Exit → Act → World → Prop} (hgd : op.guard = none) (ty : TypeId) (x y : Operand) (ho : op.op = .store ty x y)
    (w : World) (c c' : Array Value) (hx : a.eval x = .pointer (some ⟨w.heap.size, 0, none⟩)) (hy : a.eval y = .agg c') (hi : (P.info? ty).map (·.size) = some c'.size) (hs : c.size = c'.size) (h1 : c'.all (·.oneCell') = true)
    (h : wpList P ops Q rest (a.put op.dst undef) (w.alloc (.cells c' ty))) : wpList P ops Q (op :: rest) a (w.alloc (.cells c ty)) :=
  wpList_plain hgd fun _ hK => by
    unfold Oper.wp execOp
    simp only [ho, hx, hy, Sem.run_bind, run_storeAt_new w ty c c' hi hs h1, Result.andThen_ok]
    exact hK _ _ h

set_option maxRecDepth 100000 in
set_option maxHeartbeats 1000000 in
theorem carried_walk (es : List (El × Sl)) (g : Nat) (w : World) (hn : es.length ≤ 65536) (hr : ∀ i (h : i < es.length), w.rangeAt g (i * 21) (es[i].1.win es[i].2)) :
    Calls Yba.prog 6 #[.slice (some ⟨g, 0, none⟩) es.length es.length] w fun e w' => ∃ v, e = .returned v ∧ w'.ownsRow w.heap.size 52 17 v (kept es).length (rows es) ∧
      (kept es = [] → v = .slice none 0 0) ∧ Below w.heap.size w w' := by
  obtain ⟨i0, hi, hz0, hz1, hz2⟩ := info_parts Yba.info52
  have HR : Hid (∀ i (h : i < es.length), w.rangeAt g (i * 21) (es[i].1.win es[i].2)) := hr
  clear hr
  go_enter Yba.func6, Yba.ntmps6
  go_wp2
  go_loopw [3, 8] (fun v i wr => ∃ k : Nat, k ≤ es.length ∧ i = .int .i64 k ∧ wr.ownsRow w.heap.size 52 17 v (kept (es.take k)).length (rows (es.take k)) ∧ Below w.heap.size w wr ∧ (kept (es.take k) = [] → v = .slice none 0 0))
    (fun _ i _ => es.length - (intOf i).toNat)
  case atStart => exact ⟨0, Nat.zero_le _, rfl, by simpa [kept, rows] using World.ownsRow_nil _ _ _ _, Below.refl _ _, fun _ => rfl⟩
  case round =>
    obtain ⟨k, hk, rfl, hown, hbel, hnil⟩ := hrel
    have HO := Hid.mk hown
    have HNil := Hid.mk hnil
    clear hown hnil
    by_cases hlt : k < es.length
    · obtain ⟨p, hp⟩ : ∃ p, p = es[k] := ⟨_, rfl⟩
      obtain ⟨e, s⟩ := p
      have hrk : wr.rangeAt g (k * 21) [.string e.fund, .string e.id, .slice s.a s.l s.c, .string e.side, .string e.gb, .string e.ofv, .int .i64 0, .pointer none, .int .i64 0, .bool e.floor, .int .i64 e.cd, .string e.cin, .string e.group, .int .u64 (addW e.seen), .int .i64 (addE e.seen), .pointer none, .string e.cause, .int .u64 (addW e.dead), .int .i64 (addE e.dead), .pointer none, .string (statusOf e.st)] := by
        have := HR.out k hlt
        rw [← hp] at this
        exact rangeAt_below this hbel
      have HP := Hid.mk hp
      clear hp
      cases hcur : cured (e, s) with
      | true =>
        have hq := cured_true hcur
        have HC := Hid.mk hcur
        clear hcur
        go_wp2_with (first | (refine wpList_load_mid rfl 43 _ rfl g (k * 21) rfl [.string e.fund, .string e.id, .slice s.a s.l s.c, .string e.side, .string e.gb, .string e.ofv, .int .i64 0, .pointer none, .int .i64 0, .bool e.floor, .int .i64 e.cd, .string e.cin, .string e.group, .int .u64 (addW e.seen), .int .i64 (addE e.seen), .pointer none, .string e.cause, .int .u64 (addW e.dead), .int .i64 (addE e.dead), .pointer none, .string (statusOf e.st)] _ hrk Yba.underlying43 rfl Yba.size43 ?_) | (refine wpList_store_new rfl 43 _ _ rfl wr _ #[.string e.fund, .string e.id, .slice s.a s.l s.c, .string e.side, .string e.gb, .string e.ofv, .int .i64 0, .pointer none, .int .i64 0, .bool e.floor, .int .i64 e.cd, .string e.cin, .string e.group, .int .u64 (addW e.seen), .int .i64 (addE e.seen), .pointer none, .string e.cause, .int .u64 (addW e.dead), .int .i64 (addE e.dead), .pointer none, .string (statusOf e.st)] rfl rfl Yba.size43 rfl (win_one e s) ?_))
        have R := rel_drop hlt HP.out HC.out HO.out hbel HNil.out (.cells #[.string e.fund, .string e.id, .slice s.a s.l s.c, .string e.side, .string e.gb, .string e.ofv, .int .i64 0, .pointer none, .int .i64 0, .bool e.floor, .int .i64 e.cd, .string e.cin, .string e.group, .int .u64 (addW e.seen), .int .i64 (addE e.seen), .pointer none, .string e.cause, .int .u64 (addW e.dead), .int .i64 (addE e.dead), .pointer none, .string (statusOf e.st)] 43)
        go_roundw
        case rel => exact ⟨k + 1, by omega, by go_num, R⟩
        case measure => simp [intOf]; omega
      | false =>
        have hq := cured_false hcur
        have HC := Hid.mk hcur
        clear hcur
        have hkl := kept_le es k
        go_wp2_with (first | (at_builtin; refine wpList_append_own _ rfl (.tmp 15) (.tmp 27) 47 rfl w.heap.size 52 i0 _ 17 216 Yba.underlying47 hi hz0 hz1 hz2 rfl (by decide) _ _ _ rfl (ownsRow_alloc2 HO.out _ _) ⟨wr.heap.size + 1, 0, none⟩ 1 1 [.string e.fund, .string e.id, .slice s.a s.l s.c, .string e.side, .string e.gb, .string e.ofv, .int .i64 0, .pointer none, .int .i64 0, .bool e.floor, .int .i64 e.cd, .string e.cin, .string e.group, .int .u64 (addW e.seen), .int .i64 (addE e.seen), .pointer none, .string e.cause] rfl rfl ?c1 ?c2 ?c3 ?c4 ?c5 ?_) | (refine wpList_load_mid rfl 43 _ rfl g (k * 21) rfl [.string e.fund, .string e.id, .slice s.a s.l s.c, .string e.side, .string e.gb, .string e.ofv, .int .i64 0, .pointer none, .int .i64 0, .bool e.floor, .int .i64 e.cd, .string e.cin, .string e.group, .int .u64 (addW e.seen), .int .i64 (addE e.seen), .pointer none, .string e.cause, .int .u64 (addW e.dead), .int .i64 (addE e.dead), .pointer none, .string (statusOf e.st)] _ hrk Yba.underlying43 rfl Yba.size43 ?_) | (refine wpList_store_new rfl 43 _ _ rfl wr _ #[.string e.fund, .string e.id, .slice s.a s.l s.c, .string e.side, .string e.gb, .string e.ofv, .int .i64 0, .pointer none, .int .i64 0, .bool e.floor, .int .i64 e.cd, .string e.cin, .string e.group, .int .u64 (addW e.seen), .int .i64 (addE e.seen), .pointer none, .string e.cause, .int .u64 (addW e.dead), .int .i64 (addE e.dead), .pointer none, .string (statusOf e.st)] rfl rfl Yba.size43 rfl (win_one e s) ?_))
        case c2 => exact ⟨rfl, rfl, rfl, rfl, rfl, rfl, rfl, rfl, rfl, rfl, rfl, rfl, rfl, rfl, rfl, rfl, rfl⟩
        case c3 => unfold maxLen; omega
        case c4 => omega
        case c5 => have := hbel.size; omega
        intro v' w1 ho' hg' hnn
        have R := rel_keep hlt HP.out HC.out hbel HO.out ho' hg'
        clear ho' hg' hnn hrk hq
        go_wp2
        go_roundw
        case rel => exact ⟨k + 1, by omega, by go_num, R⟩
        case measure => simp [intOf]; omega
    · have hke : k = es.length := by omega
      go_wp2
      go_ret
      have e1 : es.take k = es := List.take_of_length_le (by omega)
      have h1 := HO.out
      have h2 := HNil.out
      rw [e1] at h1 h2
      exact ⟨_, rfl, h1, h2, hbel⟩

end Go.Proofs.Ybulkdsbq
