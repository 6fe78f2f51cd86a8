/- Joined by merge.py out of: Wby, Cps, Wst. -/
import Derived.Test.YtancmlapnhccdaaDoorWtt
import Derived.Test.YtancmlapnhccdaaDoorJoin
import Derived.Laws.CopyRow
import Derived.Stop.Asserts

/- bufio.Writer: WriteByte. -/
namespace Go.Proofs.YtancmlapnhccdaaDoor
open Go.RowKit

/-- what a method of the writer gives, and how it stands then -/
def WGave (L : WL) (v : Value) (val : Value) (s' : WS) (w : World) (e : Ending) (w' : World) : Prop := e = .returned val ∧ WNext L s' v w w'

/-- room is made where there is none -/
def freeM (s : WS) : WS := if s.buf.length - s.n = 0 then flushM s else s
def writeByteM (s : WS) (b : UInt8) : WS := putM (freeM s) [b]

theorem WNext.refl {L : WL} {s : WS} {v : Value} {w : World} (h : WtrAt w L s v) : WNext L s v w w := ⟨v, h, fun _ hk => .inl hk, Keep.refl _ _⟩
theorem WNext.drewN {L : WL} {s : WS} {v : Value} {w w' : World} (h : WNext L s v w w') (n : Nat) : WNext L s v w (w'.drewN n) := by
  obtain ⟨v', h1, h2, h3⟩ := h
  exact ⟨v', h1.drewN n, h2, h3.drewN n⟩
theorem WNext.drew {L : WL} {s : WS} {v : Value} {w w' : World} (h : WNext L s v w w') : WNext L s v w w'.drew := by
  obtain ⟨v', h1, h2, h3⟩ := h
  exact ⟨v', h1.drew, h2, h3.drew⟩
theorem WNext.trans {L : WL} {s' : WS} {v v1 : Value} {w w1 w2 : World} (hv : ∀ k, v1.ownBlock = some k → v.ownBlock = some k ∨ w.heap.size ≤ k) (hk : Keep (wtX L v) w w1) (h : WNext L s' v1 w1 w2) : WNext L s' v w w2 := by
  obtain ⟨v', h1, h2, h3⟩ := h
  refine ⟨v', h1, fun k hk' => ?_, hk.then h3 (wtX_next hv)⟩
  rcases h2 k hk' with e | e
  · exact hv k e
  · exact .inr (Nat.le_trans hk.size e)

theorem keepC (w : World) (R i : Nat) (u : Value) : Keep (· = R) w (w.setCell ⟨R, i, none⟩ u) := (Keep.refl (· = R) w).setCell (p := ⟨R, i, none⟩) (.inl rfl) _

/-- one byte has been put -/
theorem WtrAt.put1 {w : World} {L : WL} {s : WS} {v : Value} (h : WtrAt w L s v) (b : UInt8) (hp : 1 ≤ s.buf.length - s.n) :
    WNext L (putM s [b]) v w ((w.setCell ⟨L.WB, s.n, none⟩ (.int .u8 (b.toNat : Int))).setCell ⟨L.W, 2, none⟩ (.int .i64 ((s.n : Int) + 1))) := by
  have hle := h.le
  have hG : Blk (w.setCell ⟨L.WB, s.n, none⟩ (bv b)) L.WB 5 (splice (bvs s.buf) s.n (bvs [b])).toArray := by
    have := h.buf.set_ s.n (bv b)
    have e : splice (bvs s.buf) s.n (bvs [b]) = (bvs s.buf).set s.n (bv b) := by
      rw [List.set_eq_take_append_cons_drop, if_pos (by rw [bvs_length]; omega)]
      simp [splice, bvs]
    rw [e]
    simpa using this
  have := h.put [b] (by simpa using hp) hG (keepC _ _ _ _)
  exact ⟨v, this.1, fun k hk => .inl hk, this.2⟩

set_option maxHeartbeats 1000000 in
theorem writeByte56 (L : WL) (s : WS) (v : Value) (b : UInt8) (w : World) (h : WtrAt w L s v) (hroom : Room (s.got.length + s.n)) :
    Calls Tryd.prog 56 #[.pointer (some ⟨L.W, 0, none⟩), .int .u8 (b.toNat : Int)] w (WGave L v .nilIface (writeByteM s b) w) := by
  obtain ⟨c0, c1, c2, c3⟩ := h.cells
  have hle := h.le
  have hhi := h.hi
  have hlo := h.lo
  have hb := b.toNat_lt
  have n1 : ¬ L.W = L.WB := h.neB
  have n2 : ¬ L.WB = L.W := Ne.symm h.neB
  by_cases h0 : s.buf.length - s.n = 0
  · have H := Lib.hid (And.intro h hroom); clear h hroom
    go_enter Tryd.func56, Tryd.ntmps56
    go_wp2_with fail
    refine (available62 L s v w H.out.1).mono ?_
    rintro e w1 ⟨rfl, m, rfl⟩
    rw [h0]
    clear c0 c1 c2 c3
    go_wp2_with fail
    refine (flush38 L s v _ (H.out.1.drewN m) H.out.2).mono ?_
    rintro e w2 ⟨rfl, v2, h2, hv2, hk2⟩
    obtain ⟨c0, c1, c2, c3⟩ := h2.cells
    rw [show (flushM s).buf = s.buf from rfl] at c1
    rw [show (flushM s).n = 0 from rfl] at c2
    have g2 := h2.free 2
    have gb := h2.buf.frozen 0
    have cb : ∃ u, w2.cell? ⟨L.WB, 0, none⟩ = some u := by
      rw [h2.buf.cell]
      have : 0 < (bvs s.buf).length := by rw [bvs_length]; omega
      exact ⟨(bvs s.buf)[0], by simp [flushM, List.getElem?_eq_getElem this]⟩
    obtain ⟨u0, cb⟩ := cb
    have hl0 : (0 : Int) < (s.buf.length : Int) := by omega
    have H2 := Lib.hid (And.intro h2 (And.intro hv2 hk2)); clear h2 hv2 hk2
    have H0 := Lib.hid h0; clear h0 hle
    go_wp2_with fail
    go_region
    go_wp2_with fail
    go_ret
    have hx : writeByteM s b = putM (flushM s) [b] := by simp only [writeByteM, freeM, if_pos H0.out]
    rw [hx]
    obtain ⟨h2, hv2, hk2⟩ := H2.out
    exact ⟨rfl, (WNext.trans (w := w) hv2 (((Keep.refl _ w).drewN m).trans hk2) (h2.put1 b (by show 1 ≤ s.buf.length - 0; omega))).drew⟩
  · have hz : ¬ (((s.buf.length - s.n : Nat) : Int) ≤ 0) := by omega
    have hnl : (s.n : Int) < (s.buf.length : Int) := by omega
    have g2 := h.free 2
    have gb := h.buf.frozen s.n
    have cb : ∃ u, w.cell? ⟨L.WB, s.n, none⟩ = some u := by
      rw [h.buf.cell]
      have : s.n < (bvs s.buf).length := by rw [bvs_length]; omega
      exact ⟨(bvs s.buf)[s.n], by simp [List.getElem?_eq_getElem this]⟩
    obtain ⟨u0, cb⟩ := cb
    have hav : 0 < s.buf.length - s.n := by omega
    have H := Lib.hid h; clear h hroom
    have H0 := Lib.hid h0; clear h0
    go_enter Tryd.func56, Tryd.ntmps56
    go_wp2_with fail
    refine (available62 L s v w H.out).mono ?_
    rintro e w1 ⟨rfl, m, rfl⟩
    go_wp2_with fail
    go_region
    go_wp2_with fail
    go_ret
    have hx : writeByteM s b = putM s [b] := by simp only [writeByteM, freeM, if_neg H0.out]
    rw [hx]
    exact ⟨rfl, WNext.trans (w := w) (w1 := w.drewN (m + 1)) (fun _ hk => .inl hk) ((Keep.refl _ w).drewN _) ((H.out.drewN _).put1 b (by omega))⟩
end Go.Proofs.YtancmlapnhccdaaDoor

/- The builtin copy from a string into a block that is known whole; a string's tail. -/
namespace Go.Proofs.YtancmlapnhccdaaDoor
open Go.RowKit

theorem strOf_size (p : List UInt8) : (strOf p).size = p.length := by simp [strOf, ByteArray.size]
theorem strOf_extract (p : List UInt8) (a b : Nat) : (strOf p).extract a b = strOf ((p.take b).drop a) := by
  apply ByteArray.ext
  simp [strOf, List.drop_take]
theorem run_first (P : Program) (w : World) (p : List UInt8) (n : Nat) : (Builtin.firstCells 1 n (.string (strOf p))).run P w = .ok (bvs (p.take n)).toArray w := by
  have e : ((strOf p).extract 0 n).data.map (fun b => Value.int .u8 (b.toNat : Int)) = (bvs (p.take n)).toArray := by
    rw [strOf_extract]
    apply Array.ext'
    simp [strOf, bvs]
    rfl
  simp only [Builtin.firstCells, e]
  rfl

theorem run_copyS {P : Program} (w : World) (dT sT ty elem : TypeId) (hu : P.underlying dT = some (.slice elem)) (hsz : (P.info? elem).map (·.size) = some 1)
    (dp : Option Addr) (dLen dCap : Nat) (p : List UInt8) (g off : Nat) (cur : List Value) (t : TypeId) (hg : Blk w g t cur.toArray) (n : Nat) (hn : n = Nat.min p.length dLen)
    (hpos : 0 < n → dp = some ⟨g, off, none⟩) (hfit : off + n ≤ cur.length) :
    ∃ w', (Builtin.copy_ #[dT, sT] ty #[.slice dp dLen dCap, .string (strOf p)]).run P w = .ok (goInt n) w' ∧ Blk w' g t (splice cur off (bvs (p.take n))).toArray ∧ Keep (· = g) w w' := by
  obtain ⟨i, hq, hi⟩ := Option.map_eq_some_iff.1 hsz
  have hln : (bvs (p.take n)).length = n := by
    rw [bvs_length, List.length_take]
    have : Nat.min p.length dLen ≤ p.length := Nat.min_le_left _ _
    omega
  rcases Nat.eq_zero_or_pos n with h0 | h0
  · refine ⟨w, ?_, ?_, Keep.refl _ _⟩
    · have hf := run_first P w p 0
      subst h0
      cases dp with
      | none => simp [Builtin.copy_, run_underlying hu, Builtin.lenOf, hf, sizeOf, typeInfo, hq, hi, strOf_size, ← hn]
      | some a => simp [Builtin.copy_, run_underlying hu, Builtin.lenOf, hf, sizeOf, typeInfo, hq, hi, strOf_size, ← hn, storeCells, bvs]
    · subst h0
      simpa [splice, Blk, bvs] using hg
  · have hdp := hpos h0
    subst hdp
    have hst := run_storeCells_at P g off t (bvs (p.take n)) 0 cur.toArray w hg (by rw [hln]; simpa using hfit) (bvs_one _)
    have hf := run_first P w p n
    refine ⟨w.setRow g (cur.take off ++ bvs (p.take n) ++ cur.drop (off + n)).toArray, ?_, ?_, keep_setRow w g _⟩
    · simp [Builtin.copy_, run_underlying hu, Builtin.lenOf, hf, sizeOf, typeInfo, hq, hi, strOf_size, ← hn]
      simp [hln] at hst
      rw [hst]
      simp
    · have := setRow_heap w g cur.toArray (cur.take off ++ bvs (p.take n) ++ cur.drop (off + n)).toArray t (0, 0) hg
      rw [splice, hln]
      simpa [Blk] using this
theorem wpList_copyS {P : Program} {w : World} {ops : Array Oper} {rest : List Oper} {o : Oper} {a : Act} {Q : Exit → Act → World → Prop} (hgd : o.guard = none) (d s : Operand) (dT sT : TypeId)
    (ho : o.op = .call { callee := .builtin .copy, args := #[d, s], argTypes := #[dT, sT] }) (elem : TypeId) (hu : P.underlying dT = some (.slice elem)) (hsz : (P.info? elem).map (·.size) = some 1)
    (dp : Option Addr) (dLen dCap : Nat) (p : List UInt8) (hd : a.eval d = .slice dp dLen dCap) (hs : a.eval s = .string (strOf p))
    (g off : Nat) (cur : List Value) (t : TypeId) (hg : Blk w g t cur.toArray) (n : Nat) (hn : n = Nat.min p.length dLen) (hpos : 0 < n → dp = some ⟨g, off, none⟩) (hfit : off + n ≤ cur.length)
    (h : ∀ w', Blk w' g t (splice cur off (bvs (p.take n))).toArray → Keep (· = g) w w' → wpList P ops Q rest (a.put o.dst (goInt n)) w') :
    wpList P ops Q (o :: rest) a w := by
  refine wpList_plain hgd fun K hK => ?_
  obtain ⟨w', hrun, hb, hk⟩ := run_copyS (P := P) w dT sT o.type elem hu hsz dp dLen dCap p g off cur t hg n hn hpos hfit
  unfold Oper.wp
  simp [execOp, ho, resolve, invoke, builtin, hd, hs, hrun, Result.andThen]
  exact hK _ _ (h w' hb hk)

theorem slice_str (p : List UInt8) (k : Nat) (h : k ≤ p.length) (w : World) :
    (Instr.slice 9 (.string (strOf p)) (some (.int .i64 (k : Int))) none none).run Tryd.prog w = .ok (.string (strOf (p.drop k))) w := by
  have hs := strOf_size p
  have i1 : (k : Int) ≤ (p.length : Int) := by omega
  have e : (strOf p).extract k p.length = strOf (p.drop k) := by rw [strOf_extract, List.take_of_length_le (Nat.le_refl _)]
  simp [go_sem, hs, i1, e]
end Go.Proofs.YtancmlapnhccdaaDoor

/- bufio.Writer: WriteString. -/
namespace Go.Proofs.YtancmlapnhccdaaDoor
open Go.RowKit

def strF : Nat → WS → List UInt8 → WS
  | 0, s, p => putM s p
  | k + 1, s, p => if p.length ≤ s.buf.length - s.n then putM s p else strF k (spillM s p) (p.drop (s.buf.length - s.n))
/-- how many rounds are left, at most -/
def srank (s : WS) (p : List UInt8) : Nat := if p.length ≤ s.buf.length - s.n then 0 else 2 * p.length + (if s.n = 0 then 0 else 1)
def strM (s : WS) (p : List UInt8) : WS := strF (srank s p) s p

theorem srank_spill (s : WS) (p : List UInt8) (h1 : s.n ≤ s.buf.length) (h2 : 1 ≤ s.buf.length) (h : ¬ p.length ≤ s.buf.length - s.n) : srank (spillM s p) (p.drop (s.buf.length - s.n)) < srank s p := by
  have e : (spillM s p).n = 0 := rfl
  simp only [srank, e, if_true, if_neg h]
  split
  · omega
  · rw [List.length_drop]
    split <;> omega
theorem strF_stable : ∀ (k : Nat) (s : WS) (p : List UInt8), s.n ≤ s.buf.length → 1 ≤ s.buf.length → srank s p ≤ k → strF k s p = strM s p := by
  intro k
  induction k using Nat.strongRecOn with
  | ind k ih =>
    intro s p h1 h2 hk
    by_cases h : p.length ≤ s.buf.length - s.n
    · have e : srank s p = 0 := by simp [srank, h]
      rw [strM, e]
      cases k with
      | zero => rfl
      | succ k => simp only [strF, if_pos h]
    · have hr := srank_spill s p h1 h2 h
      obtain ⟨k', rfl⟩ : ∃ k', k = k' + 1 := ⟨k - 1, by omega⟩
      obtain ⟨r', hr'⟩ : ∃ r', srank s p = r' + 1 := ⟨srank s p - 1, by omega⟩
      have hl := spillM_len s p h1
      have e : (spillM s p).n = 0 := rfl
      rw [strM, hr']
      simp only [strF, if_neg h]
      rw [ih k' (by omega) _ _ (by rw [e]; omega) (by rw [hl]; exact h2) (by omega)]
      rcases Nat.lt_or_ge r' k' with q | q
      · rw [ih r' (by omega) _ _ (by rw [e]; omega) (by rw [hl]; exact h2) (by omega)]
      · have : r' = k' := by omega
        subst this
        rw [ih r' (by omega) _ _ (by rw [e]; omega) (by rw [hl]; exact h2) (by omega)]
theorem strM_fit (s : WS) (p : List UInt8) (h : p.length ≤ s.buf.length - s.n) : strM s p = putM s p := by
  have e : srank s p = 0 := by simp [srank, h]
  rw [strM, e]; rfl
theorem strM_spill (s : WS) (p : List UInt8) (h1 : s.n ≤ s.buf.length) (h2 : 1 ≤ s.buf.length) (h : ¬ p.length ≤ s.buf.length - s.n) : strM s p = strM (spillM s p) (p.drop (s.buf.length - s.n)) := by
  have hr := srank_spill s p h1 h2 h
  obtain ⟨r', hr'⟩ : ∃ r', srank s p = r' + 1 := ⟨srank s p - 1, by omega⟩
  have hl := spillM_len s p h1
  have e : (spillM s p).n = 0 := rfl
  rw [strM, hr']
  simp only [strF, if_neg h]
  exact strF_stable _ _ _ (by rw [e]; omega) (by rw [hl]; exact h2) (by omega)

theorem assert_sw (K : Nat) (w : World) : (Instr.typeAssert (.iface 61 (.pointer (some ⟨K, 0, none⟩))) 108 137 true).run Tryd.prog w = .ok (.tuple #[.nilIface, .bool false]) w := run_typeAssert_lacksB Tryd.underlying137 (by kernel_rfl) (by kernel_rfl) _ _ w

/-- what holds at the head of WriteString's loop -/
structure WsAt (L : WL) (s : WS) (v : Value) (p : List UInt8) (w : World) (s' : WS) (v' : Value) (p' : List UInt8) (wr : World) : Prop where
  le : p'.length ≤ p.length
  wtr : WtrAt wr L s' v'
  row : ∀ k, v'.ownBlock = some k → v.ownBlock = some k ∨ w.heap.size ≤ k
  keep : Keep (wtX L v) w wr
  same : strM s' p' = strM s p
  all : taken s' ++ p' = taken s ++ p
def WsRel (L : WL) (s : WS) (v : Value) (p : List UInt8) (w : World) (k : Nat) (t1 t6 t7 t8 : Value) (wr : World) : Prop :=
  ∃ s' v' p' tb, t1 = .string (strOf p') ∧ t6 = .nilIface ∧ t7 = .bool tb ∧ t8 = .int .i64 ((p.length - p'.length : Nat) : Int) ∧ WsAt L s v p w s' v' p' wr ∧ k = srank s' p'
theorem WsAt.room {L : WL} {s : WS} {v : Value} {p : List UInt8} {w : World} {s' : WS} {v' : Value} {p' : List UInt8} {wr : World} (h : WsAt L s v p w s' v' p' wr) (hs : s.n ≤ s.buf.length) (hr : Room (s.got.length + s.n + p.length)) : Room (s'.got.length + s'.n + p'.length) := by
  have e := congrArg List.length h.all
  have := h.wtr.le
  simp [taken] at e
  exact hr.mono (by omega)

/-- the buffer has been filled with the head of the string -/
theorem ws_spill {w w4 : World} {L : WL} {s' : WS} {v' : Value} {p' : List UInt8} {av k : Nat} (h : WtrAt w L s' v') (hav : av = s'.buf.length - s'.n) (hk : k = av) (hf : ¬ p'.length ≤ av)
    (hG : Blk w4 L.WB 5 (splice (bvs s'.buf) s'.n (bvs (p'.take k))).toArray) (hK : Keep (· = L.WB) w.drew w4) :
    WtrAt (w4.setCell ⟨L.W, 2, none⟩ (.int .i64 ((s'.n : Int) + (k : Int)))) L (putM s' (p'.take k)) v' ∧ Keep (wtX L v') w (w4.setCell ⟨L.W, 2, none⟩ (.int .i64 ((s'.n : Int) + (k : Int)))) ∧
      spillM s' p' = flushM (putM s' (p'.take k)) ∧ (Room (s'.got.length + s'.n + p'.length) → Room ((putM s' (p'.take k)).got.length + (putM s' (p'.take k)).n)) := by
  have hl : (p'.take k).length = k := by rw [List.length_take]; omega
  have hput := h.drew.put (p'.take k) (by rw [hl]; omega) hG hK
  rw [hl, show ((s'.n + k : Nat) : Int) = (s'.n : Int) + (k : Int) by omega] at hput
  refine ⟨hput.1, (Keep.refl _ w).drew.trans hput.2, by rw [hk, hav]; rfl, fun hr => ?_⟩
  show Room (s'.got.length + (s'.n + (p'.take k).length))
  rw [hl]
  exact hr.mono (by omega)
/-- a round of WriteString -/
theorem ws_round {L : WL} {s : WS} {v : Value} {p : List UInt8} {w : World} {s' : WS} {v' v5 : Value} {p' : List UInt8} {wr wq w4 w5 : World} {av k : Nat} {tb : Bool} (hw : WsAt L s v p w s' v' p' wr) (hq : Keep (wtX L v) w wq) (hle : s'.n ≤ s'.buf.length) (hlo : 1 ≤ s'.buf.length)
    (hav : av = s'.buf.length - s'.n) (hk : k = av) (hf : ¬ p'.length ≤ av) (hkp : Keep (wtX L v') wq w4) (hsp : spillM s' p' = flushM (putM s' (p'.take k))) (h5 : WtrAt w5 L (flushM (putM s' (p'.take k))) v5)
    (hv5 : ∀ k, v5.ownBlock = some k → v'.ownBlock = some k ∨ w4.heap.size ≤ k) (hk5 : Keep (wtX L v') w4 w5) :
    WsRel L s v p w (srank (spillM s' p') (p'.drop k)) (.string (strOf (p'.drop k))) .nilIface (.bool tb) (.int .i64 (((p.length - p'.length : Nat) : Int) + (k : Int))) w5 := by
  have hkq : Keep (wtX L v) w w4 := hq.then hkp (wtX_next hw.row)
  have hpl := hw.le
  refine ⟨spillM s' p', v5, p'.drop k, tb, rfl, rfl, rfl, ?_, ⟨?_, by rw [hsp]; exact h5, ?_, hkq.then hk5 (wtX_next hw.row), ?_, ?_⟩, rfl⟩
  · refine congrArg (Value.int .i64) ?_
    rw [List.length_drop]
    omega
  · rw [List.length_drop]; omega
  · intro j hj
    rcases hv5 j hj with e | e
    · exact hw.row j e
    · exact .inr (Nat.le_trans hkq.size e)
  · rw [← hw.same, strM_spill s' p' hle hlo (by rw [← hav]; exact hf), hk, hav]
  · rw [spillM_taken s' p' hle, hk, hav, List.append_assoc, List.take_append_drop]; exact hw.all

set_option maxRecDepth 100000 in
set_option maxHeartbeats 4000000 in
theorem writeString58 (L : WL) (s : WS) (v : Value) (p : List UInt8) (w : World) (h : WtrAt w L s v) (hroom : Room (s.got.length + s.n + p.length)) :
    Calls Tryd.prog 58 #[.pointer (some ⟨L.W, 0, none⟩), .string (strOf p)] w (WGave L v (.tuple #[.int .i64 (p.length : Nat), .nilIface]) (strM s p) w) := by
  have H := Lib.hid (And.intro h hroom); clear h hroom
  go_enter Tryd.func58, Tryd.ntmps58
  go_wp2_with fail
  go_loopg [1, 6, 7, 8] (srank s p) (fun k t1 t6 t7 t8 wr => WsRel L s v p w k t1 t6 t7 t8 wr)
  case atStart => exact ⟨s, v, p, true, rfl, rfl, rfl, by simp, ⟨Nat.le_refl _, H.out.1, fun k hk => .inl hk, Keep.refl _ _, rfl, rfl⟩, rfl⟩
  case round =>
    obtain ⟨s', v', p', tb, ht1, ht6, ht7, ht8, hw, hk⟩ := hrel
    subst ht1 ht6 ht7 ht8
    have HW := Lib.hid hw; clear hw
    have Hk := Lib.hid hk; clear hk
    have hsz := strOf_size p'
    go_wp2_with fail
    refine (available62 L s' v' wr HW.out.wtr).mono ?_
    rintro e w1 ⟨rfl, m, rfl⟩
    have hq := HW.out.wtr.drewN m
    have hqk := HW.out.keep.drewN m
    generalize wr.drewN m = wq at *
    obtain ⟨c0, c1, c2, c3⟩ := hq.cells
    have hle := hq.le
    have hhi := hq.hi
    have hlo := hq.lo
    have hR := H.out.2
    unfold Room at hR
    have hpl := HW.out.le
    have hR2 : p.length ≤ 1000000000 := by omega
    clear hR
    obtain ⟨av, hav⟩ : ∃ av, av = s'.buf.length - s'.n := ⟨_, rfl⟩
    have hsl := slice_l L.WB s'.buf.length s'.n hle
    rw [← hav] at hsl ⊢
    obtain ⟨k, hkn⟩ : ∃ k, k = Nat.min p'.length av := ⟨_, rfl⟩
    have hkl : k ≤ p'.length := by rw [hkn]; exact Nat.min_le_left _ _
    have hka : k ≤ av := by rw [hkn]; exact Nat.min_le_right _ _
    have hcu : 0 < k → cutA L.WB s'.buf.length s'.n = some ⟨L.WB, s'.n, none⟩ := fun h0 => cutA_pos (by omega)
    have hfit : s'.n + k ≤ (bvs s'.buf).length := by rw [bvs_length]; omega
    have HS := Lib.hid (And.intro hkn (And.intro hcu (And.intro hfit (And.intro (Blk.drew hq.buf) hav)))); clear hcu hfit
    have HQ := Lib.hid (And.intro hq hqk); clear hq hqk
    have hk2 : k ≤ 4096 := by omega
    have hn2 : s'.n ≤ 4096 := by omega
    by_cases hf : p'.length ≤ av
    · have hkp : k = p'.length := by rw [hkn]; exact Nat.min_eq_left hf
      have hd : decide (av < p'.length) = false := by simpa using hf
      clear hkn hav
      have Hkp := Lib.hid hkp; clear hkp
      go_wp2_with fail
      clear c0 c3
      refine wp_region_still_tail 10 (by kernel_rfl) (by kernel_rfl) ?_
      simp only [List.take_succ_cons, List.take_zero, List.drop_succ_cons, List.drop_zero]
      change wpStill _ _ wq.drew (fun a' => wpList _ _ _ _ a' wq.drew) _ _
      repeat still_step
      refine wpStill_nil ?_
      refine wpList_copyS rfl (.tmp 101) (.tmp 102) 25 9 rfl 5 Tryd.underlying25 Tryd.size5 (cutA L.WB s'.buf.length s'.n) av av p' rfl rfl L.WB s'.n (bvs s'.buf) 5 HS.out.2.2.2.1 k HS.out.1 HS.out.2.1 HS.out.2.2.1 ?_
      intro w2 hG2 hK2
      go_simp
      rw [Hkp.out, List.take_of_length_le (Nat.le_refl _)] at hG2
      have hput := HQ.out.1.drew.put p' (by rw [← HS.out.2.2.2.2]; exact hf) hG2 hK2
      have hW2 := HQ.out.1.drew.blk.keep hK2 HQ.out.1.neB
      have d2 : w2.cell? ⟨L.W, 2, none⟩ = some (.int .i64 (s'.n : Nat)) := hW2.cell 2
      have e2 := hW2.frozen 2
      have HP := Lib.hid (And.intro hput hW2); clear hput hW2 hG2 hK2 c1 c2
      go_wp2_with fail
      go_ret2
      have hsame := HW.out.same
      rw [strM_fit s' p' (by rw [← HS.out.2.2.2.2]; exact hf)] at hsame
      rw [← hsame]
      have hkp := Hkp.out
      refine ⟨?_, v', ?_, HW.out.row, ?_⟩
      · exact congrArg (fun x => Ending.returned (Value.tuple #[Value.int .i64 x, .nilIface])) (show (((p.length - p'.length : Nat) : Int) + (k : Int)) = ((p.length : Nat) : Int) by omega)
      · rw [show ((s'.n : Int) + (k : Int)) = ((s'.n + p'.length : Nat) : Int) by omega]; exact HP.out.1.1
      · rw [show ((s'.n : Int) + (k : Int)) = ((s'.n + p'.length : Nat) : Int) by omega]; exact (HQ.out.2.drew).then HP.out.1.2 (wtX_next HW.out.row)
    · have hkp : k = av := by rw [hkn]; exact Nat.min_eq_right (by omega)
      have hd : decide (av < p'.length) = true := by simp; omega
      have ta := fun w => assert_sw L.K w
      have hslS := slice_str p' k hkl
      clear hkn hav
      have Hkp := Lib.hid hkp; clear hkp
      have HSl := Lib.hid hslS; clear hslS
      go_wp2_with fail
      refine (buffered63 L s' v' wq HQ.out.1).mono ?_
      rintro e w2 ⟨rfl, rfl⟩
      have hcase : (s'.n = 0 ∧ tb = true) ∨ (s'.n = 0 ∧ tb = false) ∨ ¬ s'.n = 0 := by
        by_cases h0 : s'.n = 0
        · cases tb
          · exact .inr (.inl ⟨h0, rfl⟩)
          · exact .inl ⟨h0, rfl⟩
        · exact .inr (.inr h0)
      rcases hcase with ⟨h0, rfl⟩ | ⟨h0, rfl⟩ | h0
      · have hb : ((s'.n : Int) == 0) = true := by simp [h0]
        have H0 := Lib.hid h0; clear h0
        go_wp2_with fail
        refine (buffered63 L s' v' w2 HQ.out.1).mono ?_
        rintro e w3 ⟨rfl, rfl⟩
        go_wp2_with fail
        clear c0 c3 ta
        refine wp_region_still_tail 10 (by kernel_rfl) (by kernel_rfl) ?_
        simp only [List.take_succ_cons, List.take_zero, List.drop_succ_cons, List.drop_zero]
        change wpStill _ _ w3.drew (fun a' => wpList _ _ _ _ a' w3.drew) _ _
        repeat still_step
        refine wpStill_nil ?_
        refine wpList_copyS rfl (.tmp 64) (.tmp 65) 25 9 rfl 5 Tryd.underlying25 Tryd.size5 (cutA L.WB s'.buf.length s'.n) av av p' rfl rfl L.WB s'.n (bvs s'.buf) 5 HS.out.2.2.2.1 k HS.out.1 HS.out.2.1 HS.out.2.2.1 ?_
        intro w4 hG4 hK4
        go_simp
        have hsp := ws_spill HQ.out.1 HS.out.2.2.2.2 Hkp.out hf hG4 hK4
        have hW4 := HQ.out.1.drew.blk.keep hK4 HQ.out.1.neB
        have d2 : w4.cell? ⟨L.W, 2, none⟩ = some (.int .i64 (s'.n : Nat)) := hW4.cell 2
        have e2 := hW4.frozen 2
        have HP := Lib.hid hsp; clear hsp hW4 hG4 hK4 c1 c2
        go_wp2_with fail
        have hrm := HW.out.room H.out.1.le H.out.2
        refine (flush38 L (putM s' (p'.take k)) v' _ HP.out.1 (HP.out.2.2.2 hrm)).mono ?_
        rintro e w5 ⟨rfl, v5, h5, hv5, hk5⟩
        have H5 := Lib.hid (And.intro h5 (And.intro hv5 hk5)); clear h5 hv5 hk5
        have hslS := HSl.out
        clear d2 e2
        go_wp2_with fail
        go_roundg (srank (spillM s' p') (p'.drop k))
        case measure =>
          have := Hk.out
          have hr := srank_spill s' p' hle hlo (by rw [← HS.out.2.2.2.2]; exact hf)
          rw [← HS.out.2.2.2.2, ← Hkp.out] at hr
          omega
        case rel =>
          obtain ⟨h5, hv5, hk5⟩ := H5.out
          exact ws_round HW.out HQ.out.2 hle hlo HS.out.2.2.2.2 Hkp.out hf HP.out.2.1 HP.out.2.2.1 h5 hv5 hk5
      · have hb : ((s'.n : Int) == 0) = true := by simp [h0]
        have H0 := Lib.hid h0; clear h0
        go_wp2_with fail
        refine (buffered63 L s' v' w2 HQ.out.1).mono ?_
        rintro e w3 ⟨rfl, rfl⟩
        go_wp2_with fail
        clear c0 c3 ta
        refine wp_region_still_tail 10 (by kernel_rfl) (by kernel_rfl) ?_
        simp only [List.take_succ_cons, List.take_zero, List.drop_succ_cons, List.drop_zero]
        change wpStill _ _ w3.drew (fun a' => wpList _ _ _ _ a' w3.drew) _ _
        repeat still_step
        refine wpStill_nil ?_
        refine wpList_copyS rfl (.tmp 64) (.tmp 65) 25 9 rfl 5 Tryd.underlying25 Tryd.size5 (cutA L.WB s'.buf.length s'.n) av av p' rfl rfl L.WB s'.n (bvs s'.buf) 5 HS.out.2.2.2.1 k HS.out.1 HS.out.2.1 HS.out.2.2.1 ?_
        intro w4 hG4 hK4
        go_simp
        have hsp := ws_spill HQ.out.1 HS.out.2.2.2.2 Hkp.out hf hG4 hK4
        have hW4 := HQ.out.1.drew.blk.keep hK4 HQ.out.1.neB
        have d2 : w4.cell? ⟨L.W, 2, none⟩ = some (.int .i64 (s'.n : Nat)) := hW4.cell 2
        have e2 := hW4.frozen 2
        have HP := Lib.hid hsp; clear hsp hW4 hG4 hK4 c1 c2
        go_wp2_with fail
        have hrm := HW.out.room H.out.1.le H.out.2
        refine (flush38 L (putM s' (p'.take k)) v' _ HP.out.1 (HP.out.2.2.2 hrm)).mono ?_
        rintro e w5 ⟨rfl, v5, h5, hv5, hk5⟩
        have H5 := Lib.hid (And.intro h5 (And.intro hv5 hk5)); clear h5 hv5 hk5
        have hslS := HSl.out
        clear d2 e2
        go_wp2_with fail
        go_roundg (srank (spillM s' p') (p'.drop k))
        case measure =>
          have := Hk.out
          have hr := srank_spill s' p' hle hlo (by rw [← HS.out.2.2.2.2]; exact hf)
          rw [← HS.out.2.2.2.2, ← Hkp.out] at hr
          omega
        case rel =>
          obtain ⟨h5, hv5, hk5⟩ := H5.out
          exact ws_round HW.out HQ.out.2 hle hlo HS.out.2.2.2.2 Hkp.out hf HP.out.2.1 HP.out.2.2.1 h5 hv5 hk5
      · have hb : ((s'.n : Int) == 0) = false := by simp; omega
        go_wp2_with fail
        refine (buffered63 L s' v' w2 HQ.out.1).mono ?_
        rintro e w3 ⟨rfl, rfl⟩
        go_wp2_with fail
        clear c0 c3 ta
        refine wp_region_still_tail 10 (by kernel_rfl) (by kernel_rfl) ?_
        simp only [List.take_succ_cons, List.take_zero, List.drop_succ_cons, List.drop_zero]
        change wpStill _ _ w3.drew (fun a' => wpList _ _ _ _ a' w3.drew) _ _
        repeat still_step
        refine wpStill_nil ?_
        refine wpList_copyS rfl (.tmp 64) (.tmp 65) 25 9 rfl 5 Tryd.underlying25 Tryd.size5 (cutA L.WB s'.buf.length s'.n) av av p' rfl rfl L.WB s'.n (bvs s'.buf) 5 HS.out.2.2.2.1 k HS.out.1 HS.out.2.1 HS.out.2.2.1 ?_
        intro w4 hG4 hK4
        go_simp
        have hsp := ws_spill HQ.out.1 HS.out.2.2.2.2 Hkp.out hf hG4 hK4
        have hW4 := HQ.out.1.drew.blk.keep hK4 HQ.out.1.neB
        have d2 : w4.cell? ⟨L.W, 2, none⟩ = some (.int .i64 (s'.n : Nat)) := hW4.cell 2
        have e2 := hW4.frozen 2
        have HP := Lib.hid hsp; clear hsp hW4 hG4 hK4 c1 c2
        go_wp2_with fail
        have hrm := HW.out.room H.out.1.le H.out.2
        refine (flush38 L (putM s' (p'.take k)) v' _ HP.out.1 (HP.out.2.2.2 hrm)).mono ?_
        rintro e w5 ⟨rfl, v5, h5, hv5, hk5⟩
        have H5 := Lib.hid (And.intro h5 (And.intro hv5 hk5)); clear h5 hv5 hk5
        have hslS := HSl.out
        clear d2 e2
        go_wp2_with fail
        go_roundg (srank (spillM s' p') (p'.drop k))
        case measure =>
          have := Hk.out
          have hr := srank_spill s' p' hle hlo (by rw [← HS.out.2.2.2.2]; exact hf)
          rw [← HS.out.2.2.2.2, ← Hkp.out] at hr
          omega
        case rel =>
          obtain ⟨h5, hv5, hk5⟩ := H5.out
          exact ws_round HW.out HQ.out.2 hle hlo HS.out.2.2.2.2 Hkp.out hf HP.out.2.1 HP.out.2.2.1 h5 hv5 hk5
end Go.Proofs.YtancmlapnhccdaaDoor
