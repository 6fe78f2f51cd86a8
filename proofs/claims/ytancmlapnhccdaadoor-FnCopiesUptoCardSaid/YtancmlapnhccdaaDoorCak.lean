/- Joined by merge.py out of: Caa, Cab, Cac. -/
import Derived.Test.YtancmlapnhccdaaDoorCal
import Derived.Test.YtancmlapnhccdaaDoorRmm

/- impl.call: ReadByte, UnreadByte, UnreadRune, Flush, and what is no call (printed by gen_call.py). -/
namespace Go.Proofs.YtancmlapnhccdaaDoor
open Go.RowKit

set_option maxRecDepth 100000 in
set_option maxHeartbeats 2000000 in
theorem call_readByte (E : Nat → Addr) (b : BL) (s : RS) (t : WS) (v : Value) (n : Int) (dl : UInt8) (bs : List UInt8) (A : Option Addr) (k : Nat) (w : World) (h : Both w E b s t v) :
    Calls Tryd.prog 33 #[.pointer (some ⟨b.RW, 0, none⟩), callV ⟨0, n, dl, bs⟩ A k] w (CallGave E b (readByteM s).1 t v ⟨[], ((readByteM s).2.1.toNat : Int), (readByteM s).2.2⟩ w) := by
  have h0 := h.below (calW_below w ⟨0, n, dl, bs⟩ A k)
  have hbc := (calW_blk w ⟨0, n, dl, bs⟩ A k).1
  have hbk := (calW_blk w ⟨0, n, dl, bs⟩ A k).2
  have hnx : ¬ rdX b.L (w.heap.size + 1) := fun hx => by have := h.lt _ (.inl hx); omega
  have hny : ¬ wtX b.W v (w.heap.size + 1) := fun hx => by have := h.lt _ (.inr hx); omega
  have cr := h0.rw.cell 0
  simp at cr
  have hm := readByte48 E b.L s _ h0.rdr
  have H := Lib.hid (And.intro h (And.intro h0 (And.intro hbk (And.intro hnx (And.intro hm (And.intro (readByte_eof h.rdr.ok h.eof) (readByte_err s))))))); clear h h0 hbk hnx hm hny hbc
  obtain ⟨x, hx⟩ : ∃ x, x = readByteM s := ⟨_, rfl⟩
  rw [← hx] at H ⊢
  clear hx
  have Hw := Lib.hid (calW_below w ⟨0, n, dl, bs⟩ A k)
  simp only [callV, calW, callCells, outCells] at cr H Hw ⊢
  have hb := x.2.1.toNat_lt
  have herr : x.2.2 ≤ 5 := H.out.2.2.2.2.2.2
  go_enter Tryd.func33, Tryd.ntmps33
  go_wp2_with fail
  refine H.out.2.2.2.2.1.mono ?_
  rintro e w1 ⟨rfl, hr1, hk1⟩
  have hB1 := H.out.2.1.read hr1 hk1 H.out.2.2.2.2.2.1
  have hblk := H.out.2.2.1.keep hk1 H.out.2.2.2.1
  have d0 := hblk.cell 0
  have d1 := hblk.cell 1
  have d2 := hblk.cell 2
  simp at d0 d1 d2
  have f0 := hblk.frozen 0
  have f1 := hblk.frozen 1
  have f2 := hblk.frozen 2
  have H1 := Lib.hid (And.intro hB1 (And.intro hk1 hblk)); clear hB1 hk1 hblk hr1
  rw [show bv x.2.1 = .int .u8 (x.2.1.toNat : Int) from rfl]
  go_wp2_with fail
  refine (code35 _ E _ H1.out.1.rdr.env x.2.2 herr).mono ?_
  rintro e w2 ⟨rfl, rfl⟩
  go_wp2_with fail
  refine bodyPost_ret (v := .agg (outCells none 0 0 (x.2.1.toNat : Int) ((x.2.2 : Nat) : Int))) (by simp [results, Tryd.results33, go_sem, outCells, d0, d1, d2]) rfl ?_
  exact call_close H.out.1 H1.out.1 (fun _ hk => .inl hk) ((Keep.ofBelow Hw.out _).trans (H1.out.2.1.mono (fun k hx => .inl hx))) (by omega) H1.out.2.2 Reads.none_ (fun h => absurd h (by simp)) rfl

set_option maxRecDepth 100000 in
set_option maxHeartbeats 2000000 in
theorem call_unreadByte (E : Nat → Addr) (b : BL) (s : RS) (t : WS) (v : Value) (n : Int) (dl : UInt8) (bs : List UInt8) (A : Option Addr) (k : Nat) (w : World) (h : Both w E b s t v) :
    Calls Tryd.prog 33 #[.pointer (some ⟨b.RW, 0, none⟩), callV ⟨2, n, dl, bs⟩ A k] w (CallGave E b (unreadByteM s).1 t v ⟨[], 0, (unreadByteM s).2⟩ w) := by
  have h0 := h.below (calW_below w ⟨2, n, dl, bs⟩ A k)
  have hbc := (calW_blk w ⟨2, n, dl, bs⟩ A k).1
  have hbk := (calW_blk w ⟨2, n, dl, bs⟩ A k).2
  have hnx : ¬ rdX b.L (w.heap.size + 1) := fun hx => by have := h.lt _ (.inl hx); omega
  have hny : ¬ wtX b.W v (w.heap.size + 1) := fun hx => by have := h.lt _ (.inr hx); omega
  have cr := h0.rw.cell 0
  simp at cr
  have hm := unreadByte50 E b.L s _ h0.rdr
  have H := Lib.hid (And.intro h (And.intro h0 (And.intro hbk (And.intro hnx (And.intro hm (And.intro (unreadByte_eof h.eof) (unreadByte_err s))))))); clear h h0 hbk hnx hm hny hbc
  obtain ⟨x, hx⟩ : ∃ x, x = unreadByteM s := ⟨_, rfl⟩
  rw [← hx] at H ⊢
  clear hx
  have Hw := Lib.hid (calW_below w ⟨2, n, dl, bs⟩ A k)
  simp only [callV, calW, callCells, outCells] at cr H Hw ⊢
  have herr : x.2 ≤ 5 := H.out.2.2.2.2.2.2
  go_enter Tryd.func33, Tryd.ntmps33
  go_wp2_with fail
  refine H.out.2.2.2.2.1.mono ?_
  rintro e w1 ⟨rfl, hr1, hk1⟩
  have hB1 := H.out.2.1.read hr1 hk1 H.out.2.2.2.2.2.1
  have hblk := H.out.2.2.1.keep hk1 H.out.2.2.2.1
  have d0 := hblk.cell 0
  have d1 := hblk.cell 1
  have d2 := hblk.cell 2
  simp at d0 d1 d2
  have f0 := hblk.frozen 0
  have f1 := hblk.frozen 1
  have f2 := hblk.frozen 2
  have H1 := Lib.hid (And.intro hB1 (And.intro hk1 hblk)); clear hB1 hk1 hblk hr1
  go_wp2_with fail
  refine (code35 _ E _ H1.out.1.rdr.env x.2 herr).mono ?_
  rintro e w2 ⟨rfl, rfl⟩
  go_wp2_with fail
  refine bodyPost_ret (v := .agg (outCells none 0 0 0 ((x.2 : Nat) : Int))) (by simp [results, Tryd.results33, go_sem, outCells, d0, d1, d2]) rfl ?_
  exact call_close H.out.1 H1.out.1 (fun _ hk => .inl hk) ((Keep.ofBelow Hw.out _).trans (H1.out.2.1.mono (fun k hx => .inl hx))) (by omega) H1.out.2.2 Reads.none_ (fun h => absurd h (by simp)) rfl

set_option maxRecDepth 100000 in
set_option maxHeartbeats 2000000 in
theorem call_unreadRune (E : Nat → Addr) (b : BL) (s : RS) (t : WS) (v : Value) (n : Int) (dl : UInt8) (bs : List UInt8) (A : Option Addr) (k : Nat) (w : World) (h : Both w E b s t v) :
    Calls Tryd.prog 33 #[.pointer (some ⟨b.RW, 0, none⟩), callV ⟨3, n, dl, bs⟩ A k] w (CallGave E b (unreadRuneM s).1 t v ⟨[], 0, (unreadRuneM s).2⟩ w) := by
  have h0 := h.below (calW_below w ⟨3, n, dl, bs⟩ A k)
  have hbc := (calW_blk w ⟨3, n, dl, bs⟩ A k).1
  have hbk := (calW_blk w ⟨3, n, dl, bs⟩ A k).2
  have hnx : ¬ rdX b.L (w.heap.size + 1) := fun hx => by have := h.lt _ (.inl hx); omega
  have hny : ¬ wtX b.W v (w.heap.size + 1) := fun hx => by have := h.lt _ (.inr hx); omega
  have cr := h0.rw.cell 0
  simp at cr
  have hm := unreadRune51 E b.L s _ h0.rdr
  have H := Lib.hid (And.intro h (And.intro h0 (And.intro hbk (And.intro hnx (And.intro hm (And.intro (unreadRune_eof h.eof) (unreadRune_err s))))))); clear h h0 hbk hnx hm hny hbc
  obtain ⟨x, hx⟩ : ∃ x, x = unreadRuneM s := ⟨_, rfl⟩
  rw [← hx] at H ⊢
  clear hx
  have Hw := Lib.hid (calW_below w ⟨3, n, dl, bs⟩ A k)
  simp only [callV, calW, callCells, outCells] at cr H Hw ⊢
  have herr : x.2 ≤ 5 := H.out.2.2.2.2.2.2
  go_enter Tryd.func33, Tryd.ntmps33
  go_wp2_with fail
  refine H.out.2.2.2.2.1.mono ?_
  rintro e w1 ⟨rfl, hr1, hk1⟩
  have hB1 := H.out.2.1.read hr1 hk1 H.out.2.2.2.2.2.1
  have hblk := H.out.2.2.1.keep hk1 H.out.2.2.2.1
  have d0 := hblk.cell 0
  have d1 := hblk.cell 1
  have d2 := hblk.cell 2
  simp at d0 d1 d2
  have f0 := hblk.frozen 0
  have f1 := hblk.frozen 1
  have f2 := hblk.frozen 2
  have H1 := Lib.hid (And.intro hB1 (And.intro hk1 hblk)); clear hB1 hk1 hblk hr1
  go_wp2_with fail
  refine (code35 _ E _ H1.out.1.rdr.env x.2 herr).mono ?_
  rintro e w2 ⟨rfl, rfl⟩
  go_wp2_with fail
  refine bodyPost_ret (v := .agg (outCells none 0 0 0 ((x.2 : Nat) : Int))) (by simp [results, Tryd.results33, go_sem, outCells, d0, d1, d2]) rfl ?_
  exact call_close H.out.1 H1.out.1 (fun _ hk => .inl hk) ((Keep.ofBelow Hw.out _).trans (H1.out.2.1.mono (fun k hx => .inl hx))) (by omega) H1.out.2.2 Reads.none_ (fun h => absurd h (by simp)) rfl

set_option maxRecDepth 100000 in
set_option maxHeartbeats 2000000 in
theorem call_flush (E : Nat → Addr) (b : BL) (s : RS) (t : WS) (v : Value) (n : Int) (dl : UInt8) (bs : List UInt8) (A : Option Addr) (k : Nat) (w : World) (h : Both w E b s t v) (hroom : Room (t.got.length + t.n)) :
    Calls Tryd.prog 33 #[.pointer (some ⟨b.RW, 0, none⟩), callV ⟨12, n, dl, bs⟩ A k] w (CallGave E b s (flushM t) v ⟨[], 0, 0⟩ w) := by
  have h0 := h.below (calW_below w ⟨12, n, dl, bs⟩ A k)
  have hbc := (calW_blk w ⟨12, n, dl, bs⟩ A k).1
  have hbk := (calW_blk w ⟨12, n, dl, bs⟩ A k).2
  have hnx : ¬ rdX b.L (w.heap.size + 1) := fun hx => by have := h.lt _ (.inl hx); omega
  have hny : ¬ wtX b.W v (w.heap.size + 1) := fun hx => by have := h.lt _ (.inr hx); omega
  have cr := h0.rw.cell 1
  simp at cr
  have hm := flush38 b.W t v _ h0.wtr hroom
  have H := Lib.hid (And.intro h (And.intro h0 (And.intro hbk (And.intro hny hm)))); clear h h0 hbk hnx hm hny hbc hroom
  have Hw := Lib.hid (calW_below w ⟨12, n, dl, bs⟩ A k)
  simp only [callV, calW, callCells, outCells] at cr H Hw ⊢
  go_enter Tryd.func33, Tryd.ntmps33
  go_wp2_with fail
  refine H.out.2.2.2.2.mono ?_
  rintro e w1 ⟨rfl, hn1⟩
  obtain ⟨v1, hB1, hv1, hk1⟩ := H.out.2.1.write hn1
  have hblk := H.out.2.2.1.keep hk1 H.out.2.2.2.1
  have d0 := hblk.cell 0
  have d1 := hblk.cell 1
  have d2 := hblk.cell 2
  simp at d0 d1 d2
  have f0 := hblk.frozen 0
  have f1 := hblk.frozen 1
  have f2 := hblk.frozen 2
  have H1 := Lib.hid (And.intro hB1 (And.intro hk1 (And.intro hblk hv1))); clear hB1 hk1 hblk hn1 hv1
  go_wp2_with fail
  refine (code35 _ E _ H1.out.1.rdr.env 0 (by omega)).mono ?_
  rintro e w2 ⟨rfl, rfl⟩
  go_wp2_with fail
  refine bodyPost_ret (v := .agg (outCells none 0 0 0 0)) (by simp [results, Tryd.results33, go_sem, outCells, d0, d1, d2]) rfl ?_
  have hsz := Hw.out.size
  exact call_close (o := ⟨[], 0, 0⟩) H.out.1 H1.out.1 (fun k hk => (H1.out.2.2.2 k hk).imp id (fun e => Nat.le_trans hsz e)) ((Keep.ofBelow Hw.out _).trans (H1.out.2.1.mono (fun k hx => .inr hx))) (by omega) H1.out.2.2.1 Reads.none_ (fun h => absurd h (by simp)) rfl

set_option maxRecDepth 100000 in
set_option maxHeartbeats 2000000 in
theorem call_other (E : Nat → Addr) (b : BL) (s : RS) (t : WS) (v : Value) (kind n : Int) (hk : kind < 0 ∨ 12 < kind) (dl : UInt8) (bs : List UInt8) (A : Option Addr) (k : Nat) (w : World) (h : Both w E b s t v) :
    Calls Tryd.prog 33 #[.pointer (some ⟨b.RW, 0, none⟩), callV ⟨kind, n, dl, bs⟩ A k] w (CallGave E b s t v noOut w) := by
  have hw := calW_below w ⟨kind, n, dl, bs⟩ A k
  have H := Lib.hid (And.intro h (And.intro hw (And.intro (h.below hw) (calW_blk w ⟨kind, n, dl, bs⟩ A k).2))); clear h hw
  have q0 : (kind == 0) = false := by simp; omega
  have q1 : (kind == 1) = false := by simp; omega
  have q2 : (kind == 2) = false := by simp; omega
  have q3 : (kind == 3) = false := by simp; omega
  have q4 : (kind == 4) = false := by simp; omega
  have q5 : (kind == 5) = false := by simp; omega
  have q6 : (kind == 6) = false := by simp; omega
  have q7 : (kind == 7) = false := by simp; omega
  have q8 : (kind == 8) = false := by simp; omega
  have q9 : (kind == 9) = false := by simp; omega
  have q10 : (kind == 10) = false := by simp; omega
  have q11 : (kind == 11) = false := by simp; omega
  have q12 : (kind == 12) = false := by simp; omega
  simp only [callV, calW, callCells, outCells] at H ⊢
  go_enter Tryd.func33, Tryd.ntmps33
  go_wp2_with fail
  refine bodyPost_ret (v := .agg (outCells none 0 0 0 0)) (by simp [results, Tryd.results33, go_sem, outCells]) rfl ?_
  obtain ⟨h, hw, h0, hb⟩ := H.out
  exact ⟨v, none, 0, h0, fun _ hk => .inl hk, Keep.ofBelow hw _, rfl, Reads.none_, fun h => absurd h (by simp [noOut])⟩

end Go.Proofs.YtancmlapnhccdaaDoor

/- impl.call: Peek, ReadBytes (printed by gen_call.py). -/
namespace Go.Proofs.YtancmlapnhccdaaDoor
open Go.RowKit

/-- behind append([]byte{}, b...): a new row with the bytes -/
theorem app_new {E : Nat → Addr} {b : BL} {s : RS} {t : WS} {v : Value} {w1 w3 : World} {g : Nat} {cs : Array Value} {a3 : Option Addr} {k3 n : Nat} {bs : List UInt8} (h : Both w1 E b s t v) (hb : Blk w1 g 36 cs) (ho : w3.ownsRow w1.heap.size 5 1 (.slice a3 (0 + n) k3) (0 + n) ([] ++ bvs bs))
    (hg : (w1.alloc (.cells #[] 5)).grownBy w3 (Value.slice (some ⟨w1.heap.size, 0, none⟩) 0 0).ownBlock) (hat : (Value.slice a3 (0 + n) k3).ownBlock = (Value.slice (some ⟨w1.heap.size, 0, none⟩) 0 0).ownBlock ∨ (Value.slice a3 (0 + n) k3).ownBlock = some (w1.alloc (.cells #[] 5)).heap.size) :
    Both w3 E b s t v ∧ Blk w3 g 36 cs ∧ Below w1.heap.size w1 w3 ∧ Reads w3 w3.heap.size 1 a3 n (bvs bs) ∧ ∀ {W : Nat}, W ≤ w1.heap.size → 0 < n → ∃ ad, a3 = some ad ∧ W ≤ ad.block ∧ v.ownBlock ≠ some ad.block ∧ ad.block ≠ g := by
  simp only [Nat.zero_add, List.nil_append] at ho hat
  have hbl : Below w1.heap.size w1 w3 := ((Below.refl _ _).alloc (Nat.le_refl _) _).grown hg (by simp) (fun k hk => by simp [Value.ownBlock] at hk; omega)
  refine ⟨h.below hbl, hb.below hbl hb.lt, hbl, Reads.of_own ho, fun {W} hW h0 => ?_⟩
  obtain ⟨g', cap, hv, hbg, hlt⟩ := ho.form h0
  have hA : a3 = some ⟨g', 0, none⟩ := by injection hv
  subst hA
  have hge : w1.heap.size ≤ g' := (ho.lt g' rfl).1
  refine ⟨_, rfl, Nat.le_trans hW hge, fun e => ?_, fun e => ?_⟩
  · have := h.lt g' (.inr (.inr (.inr (.inr e)))); omega
  · have := hb.lt
    have e' : g' = g := e
    omega

set_option maxRecDepth 100000 in
set_option maxHeartbeats 2000000 in
theorem call_peek (E : Nat → Addr) (b : BL) (s : RS) (t : WS) (v : Value) (n : Int) (dl : UInt8) (bs : List UInt8) (A : Option Addr) (k : Nat) (w : World) (h : Both w E b s t v) :
    Calls Tryd.prog 33 #[.pointer (some ⟨b.RW, 0, none⟩), callV ⟨4, n, dl, bs⟩ A k] w (CallGave E b (peekM n s).1 t v ⟨(peekM n s).2.1, 0, (peekM n s).2.2⟩ w) := by
  have h0 := h.below (calW_below w ⟨4, n, dl, bs⟩ A k)
  have hbc := (calW_blk w ⟨4, n, dl, bs⟩ A k).1
  have hbk := (calW_blk w ⟨4, n, dl, bs⟩ A k).2
  have hnx : ¬ rdX b.L (w.heap.size + 1) := fun hx => by have := h.lt _ (.inl hx); omega
  have hny : ¬ wtX b.W v (w.heap.size + 1) := fun hx => by have := h.lt _ (.inr hx); omega
  have cr := h0.rw.cell 0
  simp at cr
  have hm := peek52 E b.L s n (calW w ⟨4, n, dl, bs⟩ A k).drew h0.rdr.drew
  have H := Lib.hid (And.intro h (And.intro h0 (And.intro hbk (And.intro hnx (And.intro hm (And.intro (peek_eof n h.rdr.ok h.eof) (And.intro (peek_err s n) (show Room _ from Nat.le_trans (peek_len n h.rdr.ok) (by omega))))))))); clear h h0 hbk hnx hm hny
  obtain ⟨x, hx⟩ : ∃ x, x = peekM n s := ⟨_, rfl⟩
  rw [← hx] at H ⊢
  clear hx
  have Hw := Lib.hid (calW_below w ⟨4, n, dl, bs⟩ A k)
  simp only [callV, calW, callCells, outCells] at cr H Hw hbc ⊢
  have herr : x.2.2 ≤ 5 := H.out.2.2.2.2.2.2.1
  obtain ⟨i0, hi0, hz0, hz1, hz2⟩ := info_parts Tryd.info5
  have HI := Lib.hid (And.intro hi0 (And.intro hz0 (And.intro hz1 hz2))); clear hi0 hz0 hz1 hz2
  go_enter Tryd.func33, Tryd.ntmps33
  go_wp2_with fail
  generalize (w.alloc (.cells #[.int .i64 4, .int .i64 n, .int .u8 (dl.toNat : Int), .slice A bs.length k] 34)).alloc (.cells #[.slice none 0 0, .int .i64 0, .int .i64 0] 36) = w0 at *
  have cc : w0.cell? ⟨w.heap.size, 1, none⟩ = some (.int .i64 n) := hbc.cell 1
  have k0 := Lib.hid (And.intro cr cc)
  have hwz : w.heap.size < w0.heap.size := hbc.lt
  have hnc : ¬ rdX b.L w.heap.size := fun hx => by have := H.out.1.lt _ (.inl hx); omega
  have Hbc := Lib.hid hbc; clear hbc cr cc
  go_region_held3 (fun w' => w'.cell? ⟨b.RW, 0, none⟩ = some (.pointer (some ⟨b.L.R, 0, none⟩)) ∧ w'.cell? ⟨w.heap.size, 1, none⟩ = some (.int .i64 n)) (first | exact k0.out | exact k1.out)
    (first | (go_at_call 52; refine H.out.2.2.2.2.1.mono ?_; rintro e w1 ⟨A1, c1, rfl, hrd1, hr1, hk1, _⟩; have k1 := Lib.hid (And.intro ((hk1.cell (p := ⟨b.RW, 0, none⟩) H.out.2.1.rw.lt H.out.1.nR).trans k0.out.1) ((hk1.cell (p := ⟨w.heap.size, 1, none⟩) hwz hnc).trans k0.out.2)); have HM := Lib.hid (And.intro hrd1 (And.intro hr1 hk1)); clear hrd1 hr1 hk1 k0))
  clear k1
  obtain ⟨hrd1, hr1, hk1⟩ := HM.out
  have hB1 := H.out.2.1.read (w' := w1) hr1 ((Keep.refl _ _).drew.trans hk1) H.out.2.2.2.2.2.1
  have hblk := H.out.2.2.1.keep ((Keep.refl _ _).drew.trans hk1) H.out.2.2.2.1
  have hka : Keep (fun _ => False) w1 (w1.alloc (.cells #[] 5)) := (Keep.refl _ _).alloc _
  have hr2 : Reads (w1.alloc (.cells #[] 5)) w1.heap.size 1 A1 x.2.1.length (bvs x.2.1) := hrd1.alloc (Nat.le_refl _) _
  have hown : (w1.alloc (.cells #[] 5)).ownsRow w1.heap.size 5 1 (.slice (some ⟨w1.heap.size, 0, none⟩) 0 0) 0 [] := World.ownsRow_made w1 #[] 0 (Nat.le_refl _) (by simp [maxLen]) (by simp)
  have hrm : Room (0 + x.2.1.length) := by have := H.out.2.2.2.2.2.2.2; rw [Nat.zero_add]; exact this
  have hsz : w1.heap.size ≤ (w1.alloc (.cells #[] 5)).heap.size := by simp
  have H1 := Lib.hid (And.intro hB1 (And.intro hk1 (And.intro hblk (And.intro hr2 (And.intro hown (And.intro (bvs_one x.2.1) (And.intro hrm hsz))))))); clear hB1 hk1 hblk hr1 hrd1 hr2 hown hrm hsz hka
  go_wp2_with (at_builtin; refine wpList_append_any _ rfl (.tmp 89) (.tmp 90) _ rfl w1.heap.size 5 i0 _ 1 1 Tryd.underlying25 HI.out.1 HI.out.2.1 HI.out.2.2.1 HI.out.2.2.2 rfl (by omega) (.slice (some ⟨w1.heap.size, 0, none⟩) 0 0) 0 [] rfl H1.out.2.2.2.2.1 w1.heap.size A1 x.2.1.length c1 (bvs x.2.1) rfl H1.out.2.2.2.1 H1.out.2.2.2.2.2.1 H1.out.2.2.2.2.2.2.1.len (H1.out.2.2.2.2.2.2.1.bytes 1 (by omega)) H1.out.2.2.2.2.2.2.2 ?_; intro v3 w3 hown3 hg3 hat3; obtain ⟨a3, k3, hv3⟩ := own_slice hown3; subst hv3; have H3 := Lib.hid (And.intro hown3 (And.intro hg3 hat3)); clear hown3 hg3 hat3)
  have hap := app_new H1.out.1 H1.out.2.2.1 H3.out.1 H3.out.2.1 H3.out.2.2
  have hblk := hap.2.1
  have d0 := hblk.cell 0
  have d1 := hblk.cell 1
  have d2 := hblk.cell 2
  simp at d0 d1 d2
  have f0 := hblk.frozen 0
  have f1 := hblk.frozen 1
  have f2 := hblk.frozen 2
  have HA := Lib.hid hap; clear hap hblk
  refine (code35 _ E _ HA.out.1.rdr.env x.2.2 herr).mono ?_
  rintro e w4 ⟨rfl, rfl⟩
  go_wp2_with fail
  rw [Nat.zero_add] at *
  refine bodyPost_ret (v := .agg (outCells a3 x.2.1.length k3 0 ((x.2.2 : Nat) : Int))) (by simp [results, Tryd.results33, go_sem, outCells, d0, d1, d2]) rfl ?_
  exact call_close (o := ⟨x.2.1, 0, x.2.2⟩) H.out.1 HA.out.1 (fun _ hk => .inl hk) (((Keep.ofBelow Hw.out _).drew.trans (H1.out.2.1.mono (fun k hx => .inl hx))).trans (Keep.ofBelow HA.out.2.2.1 _)) (by omega) HA.out.2.1 HA.out.2.2.2.1 (HA.out.2.2.2.2 (by have := Hw.out.size; have := H1.out.2.1.size; simp at *; omega)) rfl

end Go.Proofs.YtancmlapnhccdaaDoor

/- impl.call: Discard, ReadBytes, ReadString (printed by gen_call.py). -/
namespace Go.Proofs.YtancmlapnhccdaaDoor
open Go.RowKit

set_option maxRecDepth 100000 in
set_option maxHeartbeats 2000000 in
theorem call_discard (E : Nat → Addr) (b : BL) (s : RS) (t : WS) (v : Value) (n : Int) (dl : UInt8) (bs : List UInt8) (A : Option Addr) (k : Nat) (w : World) (h : Both w E b s t v) (hmax : n ≤ 9223372036854775807) :
    Calls Tryd.prog 33 #[.pointer (some ⟨b.RW, 0, none⟩), callV ⟨5, n, dl, bs⟩ A k] w (CallGave E b (discardM n s).1 t v ⟨[], ((discardM n s).2.1 : Int), (discardM n s).2.2⟩ w) := by
  have h0 := h.below (calW_below w ⟨5, n, dl, bs⟩ A k)
  have hbc := (calW_blk w ⟨5, n, dl, bs⟩ A k).1
  have hbk := (calW_blk w ⟨5, n, dl, bs⟩ A k).2
  have hnx : ¬ rdX b.L (w.heap.size + 1) := fun hx => by have := h.lt _ (.inl hx); omega
  have hny : ¬ wtX b.W v (w.heap.size + 1) := fun hx => by have := h.lt _ (.inr hx); omega
  have cr := h0.rw.cell 0
  simp at cr
  have hm := discard53 E b.L s n hmax (calW w ⟨5, n, dl, bs⟩ A k).drew h0.rdr.drew h.eof
  have H := Lib.hid (And.intro h (And.intro h0 (And.intro hbk (And.intro hnx (And.intro hm (And.intro (discard_eof n h.rdr.ok h.eof) (discard_err n h.rdr.ok h.eof))))))); clear h h0 hbk hnx hm hny hmax
  obtain ⟨x, hx⟩ : ∃ x, x = discardM n s := ⟨_, rfl⟩
  rw [← hx] at H ⊢
  clear hx
  have Hw := Lib.hid (calW_below w ⟨5, n, dl, bs⟩ A k)
  simp only [callV, calW, callCells, outCells] at cr H Hw hbc ⊢
  have herr : x.2.2 ≤ 5 := H.out.2.2.2.2.2.2
  go_enter Tryd.func33, Tryd.ntmps33
  go_wp2_with fail
  generalize (w.alloc (.cells #[.int .i64 5, .int .i64 n, .int .u8 (dl.toNat : Int), .slice A bs.length k] 34)).alloc (.cells #[.slice none 0 0, .int .i64 0, .int .i64 0] 36) = w0 at *
  have cc : w0.cell? ⟨w.heap.size, 1, none⟩ = some (.int .i64 n) := hbc.cell 1
  have k0 := Lib.hid (And.intro cr cc)
  have hwz : w.heap.size < w0.heap.size := hbc.lt
  have hnc : ¬ rdX b.L w.heap.size := fun hx => by have := H.out.1.lt _ (.inl hx); omega
  have Hbc := Lib.hid hbc; clear hbc cr cc
  go_region_held3 (fun w' => w'.cell? ⟨b.RW, 0, none⟩ = some (.pointer (some ⟨b.L.R, 0, none⟩)) ∧ w'.cell? ⟨w.heap.size, 1, none⟩ = some (.int .i64 n)) (first | exact k0.out | exact k1.out)
    (first | (go_at_call 53; refine H.out.2.2.2.2.1.mono ?_; rintro e w1 ⟨rfl, hr1, hk1⟩; have k1 := Lib.hid (And.intro ((hk1.cell (p := ⟨b.RW, 0, none⟩) H.out.2.1.rw.lt H.out.1.nR).trans k0.out.1) ((hk1.cell (p := ⟨w.heap.size, 1, none⟩) hwz hnc).trans k0.out.2)); have HM := Lib.hid (And.intro hr1 hk1); clear k0))
  clear k1
  obtain ⟨hr1, hk1⟩ := HM.out
  have hB1 := H.out.2.1.read (w' := w1) hr1 ((Keep.refl _ _).drew.trans hk1) H.out.2.2.2.2.2.1
  have hblk := H.out.2.2.1.keep ((Keep.refl _ _).drew.trans hk1) H.out.2.2.2.1
  have d0 := hblk.cell 0
  have d1 := hblk.cell 1
  have d2 := hblk.cell 2
  simp at d0 d1 d2
  have f0 := hblk.frozen 0
  have f1 := hblk.frozen 1
  have f2 := hblk.frozen 2
  have H1 := Lib.hid (And.intro hB1 (And.intro hk1 hblk)); clear hB1 hk1 hblk hr1
  go_wp2_with fail
  refine (code35 _ E _ H1.out.1.rdr.env x.2.2 herr).mono ?_
  rintro e w2 ⟨rfl, rfl⟩
  go_wp2_with fail
  refine bodyPost_ret (v := .agg (outCells none 0 0 ((x.2.1 : Nat) : Int) ((x.2.2 : Nat) : Int))) (by simp [results, Tryd.results33, go_sem, outCells, d0, d1, d2]) rfl ?_
  exact call_close (o := ⟨[], ((x.2.1 : Nat) : Int), x.2.2⟩) H.out.1 H1.out.1 (fun _ hk => .inl hk) ((Keep.ofBelow Hw.out _).drew.trans (H1.out.2.1.mono (fun k hx => .inl hx))) (by omega) H1.out.2.2 Reads.none_ (fun h => absurd h (by simp)) rfl

set_option maxRecDepth 100000 in
set_option maxHeartbeats 2000000 in
theorem call_readBytes (E : Nat → Addr) (b : BL) (s : RS) (t : WS) (v : Value) (n : Int) (dl : UInt8) (bs : List UInt8) (A : Option Addr) (k : Nat) (w : World) (h : Both w E b s t v) (hroom : Room (left s).length) :
    Calls Tryd.prog 33 #[.pointer (some ⟨b.RW, 0, none⟩), callV ⟨6, n, dl, bs⟩ A k] w (CallGave E b (lineM dl s).1 t v ⟨(lineM dl s).2.1, 0, (lineM dl s).2.2⟩ w) := by
  have h0 := h.below (calW_below w ⟨6, n, dl, bs⟩ A k)
  have hbc := (calW_blk w ⟨6, n, dl, bs⟩ A k).1
  have hbk := (calW_blk w ⟨6, n, dl, bs⟩ A k).2
  have hnx : ¬ rdX b.L (w.heap.size + 1) := fun hx => by have := h.lt _ (.inl hx); omega
  have hny : ¬ wtX b.W v (w.heap.size + 1) := fun hx => by have := h.lt _ (.inr hx); omega
  have cr := h0.rw.cell 0
  simp at cr
  have hm := readBytes54 E b.L s dl (calW w ⟨6, n, dl, bs⟩ A k).drew h0.rdr.drew h.eof hroom
  have H := Lib.hid (And.intro h (And.intro h0 (And.intro hbk (And.intro hnx (And.intro hm (And.intro (line_eof dl h.rdr.ok h.eof) (And.intro (line_err dl h.rdr.ok h.eof) (hroom.mono (line_len dl h.rdr.ok h.eof))))))))); clear h h0 hbk hnx hm hny hroom
  obtain ⟨x, hx⟩ : ∃ x, x = lineM dl s := ⟨_, rfl⟩
  rw [← hx] at H ⊢
  clear hx
  have Hw := Lib.hid (calW_below w ⟨6, n, dl, bs⟩ A k)
  simp only [callV, calW, callCells, outCells] at cr H Hw hbc ⊢
  have herr : x.2.2 ≤ 5 := H.out.2.2.2.2.2.2.1
  obtain ⟨i0, hi0, hz0, hz1, hz2⟩ := info_parts Tryd.info5
  have HI := Lib.hid (And.intro hi0 (And.intro hz0 (And.intro hz1 hz2))); clear hi0 hz0 hz1 hz2
  go_enter Tryd.func33, Tryd.ntmps33
  go_wp2_with fail
  generalize (w.alloc (.cells #[.int .i64 6, .int .i64 n, .int .u8 (dl.toNat : Int), .slice A bs.length k] 34)).alloc (.cells #[.slice none 0 0, .int .i64 0, .int .i64 0] 36) = w0 at *
  have cc : w0.cell? ⟨w.heap.size, 2, none⟩ = some (.int .u8 (dl.toNat : Int)) := hbc.cell 2
  have k0 := Lib.hid (And.intro cr cc)
  have hwz : w.heap.size < w0.heap.size := hbc.lt
  have hnc : ¬ rdX b.L w.heap.size := fun hx => by have := H.out.1.lt _ (.inl hx); omega
  have Hbc := Lib.hid hbc; clear hbc cr cc
  go_region_held3 (fun w' => w'.cell? ⟨b.RW, 0, none⟩ = some (.pointer (some ⟨b.L.R, 0, none⟩)) ∧ w'.cell? ⟨w.heap.size, 2, none⟩ = some (.int .u8 (dl.toNat : Int))) (first | exact k0.out | exact k1.out)
    (first | (go_at_call 54; refine H.out.2.2.2.2.1.mono ?_; rintro e w1 ⟨A1, c1, rfl, hrd1, hr1, hk1, _⟩; have k1 := Lib.hid (And.intro ((hk1.cell (p := ⟨b.RW, 0, none⟩) H.out.2.1.rw.lt H.out.1.nR).trans k0.out.1) ((hk1.cell (p := ⟨w.heap.size, 2, none⟩) hwz hnc).trans k0.out.2)); have HM := Lib.hid (And.intro hrd1 (And.intro hr1 hk1)); clear hrd1 hr1 hk1 k0))
  clear k1
  obtain ⟨hrd1, hr1, hk1⟩ := HM.out
  have hB1 := H.out.2.1.read (w' := w1) hr1 ((Keep.refl _ _).drew.trans hk1) H.out.2.2.2.2.2.1
  have hblk := H.out.2.2.1.keep ((Keep.refl _ _).drew.trans hk1) H.out.2.2.2.1
  have hka : Keep (fun _ => False) w1 (w1.alloc (.cells #[] 5)) := (Keep.refl _ _).alloc _
  have hr2 : Reads (w1.alloc (.cells #[] 5)) w1.heap.size 1 A1 x.2.1.length (bvs x.2.1) := hrd1.alloc (Nat.le_refl _) _
  have hown : (w1.alloc (.cells #[] 5)).ownsRow w1.heap.size 5 1 (.slice (some ⟨w1.heap.size, 0, none⟩) 0 0) 0 [] := World.ownsRow_made w1 #[] 0 (Nat.le_refl _) (by simp [maxLen]) (by simp)
  have hrm : Room (0 + x.2.1.length) := by have := H.out.2.2.2.2.2.2.2; rw [Nat.zero_add]; exact this
  have hsz : w1.heap.size ≤ (w1.alloc (.cells #[] 5)).heap.size := by simp
  have H1 := Lib.hid (And.intro hB1 (And.intro hk1 (And.intro hblk (And.intro hr2 (And.intro hown (And.intro (bvs_one x.2.1) (And.intro hrm hsz))))))); clear hB1 hk1 hblk hr1 hrd1 hr2 hown hrm hsz hka
  go_wp2_with (at_builtin; refine wpList_append_any _ rfl (.tmp 123) (.tmp 124) _ rfl w1.heap.size 5 i0 _ 1 1 Tryd.underlying25 HI.out.1 HI.out.2.1 HI.out.2.2.1 HI.out.2.2.2 rfl (by omega) (.slice (some ⟨w1.heap.size, 0, none⟩) 0 0) 0 [] rfl H1.out.2.2.2.2.1 w1.heap.size A1 x.2.1.length c1 (bvs x.2.1) rfl H1.out.2.2.2.1 H1.out.2.2.2.2.2.1 H1.out.2.2.2.2.2.2.1.len (H1.out.2.2.2.2.2.2.1.bytes 1 (by omega)) H1.out.2.2.2.2.2.2.2 ?_; intro v3 w3 hown3 hg3 hat3; obtain ⟨a3, k3, hv3⟩ := own_slice hown3; subst hv3; have H3 := Lib.hid (And.intro hown3 (And.intro hg3 hat3)); clear hown3 hg3 hat3)
  have hap := app_new H1.out.1 H1.out.2.2.1 H3.out.1 H3.out.2.1 H3.out.2.2
  have hblk := hap.2.1
  have d0 := hblk.cell 0
  have d1 := hblk.cell 1
  have d2 := hblk.cell 2
  simp at d0 d1 d2
  have f0 := hblk.frozen 0
  have f1 := hblk.frozen 1
  have f2 := hblk.frozen 2
  have HA := Lib.hid hap; clear hap hblk
  refine (code35 _ E _ HA.out.1.rdr.env x.2.2 herr).mono ?_
  rintro e w4 ⟨rfl, rfl⟩
  go_wp2_with fail
  rw [Nat.zero_add] at *
  refine bodyPost_ret (v := .agg (outCells a3 x.2.1.length k3 0 ((x.2.2 : Nat) : Int))) (by simp [results, Tryd.results33, go_sem, outCells, d0, d1, d2]) rfl ?_
  exact call_close (o := ⟨x.2.1, 0, x.2.2⟩) H.out.1 HA.out.1 (fun _ hk => .inl hk) (((Keep.ofBelow Hw.out _).drew.trans (H1.out.2.1.mono (fun k hx => .inl hx))).trans (Keep.ofBelow HA.out.2.2.1 _)) (by omega) HA.out.2.1 HA.out.2.2.2.1 (HA.out.2.2.2.2 (by have := Hw.out.size; have := H1.out.2.1.size; simp at *; omega)) rfl

/-- bytes of a string: a new row -/
theorem conv_bytes (l : List UInt8) (w : World) : ∃ c w', (convert 9 25 (.string (strOf l))).run Tryd.prog w = .ok (.slice (some ⟨w.heap.size, 0, none⟩) l.length c) w' ∧ Below w.heap.size w w' ∧ Reads w' w'.heap.size 1 (some ⟨w.heap.size, 0, none⟩) l.length (bvs l) := by
  have h := run_bytes_of_string w 9 25 5 (strOf l) Tryd.underlying9 Tryd.underlying25 Tryd.underlying5
  rw [strOf_size] at h
  refine ⟨_, _, h, ((Below.refl _ _).drew).alloc (Nat.le_refl _) _, by rw [bvs_length]; omega, fun _ => ⟨_, rfl, by simp, fun j u hj => ?_⟩⟩
  have hjl : j < l.length := by have := (List.getElem?_eq_some_iff.1 hj).1; rwa [bvs_length] at this
  have hb := bytesRow_at (strOf l) (grownCap w l.length 0 5) j (by simpa [strOf] using hjl)
  rw [add_mk, Nat.zero_add]
  have hc : ∀ (C : Array Value) (fr : Nat × Nat), (w.drew.alloc (.cells C 5 fr)).cell? ⟨w.heap.size, j, none⟩ = C[j]? := by
    intro C fr
    exact cell_of_row _ _ _ _ _ fr (heap_alloc_new w.drew _)
  rw [hc, hb, ← hj, bvs_get, List.getElem?_eq_getElem hjl]
  simp [strOf, bv]

set_option maxRecDepth 100000 in
set_option maxHeartbeats 2000000 in
theorem call_readString (E : Nat → Addr) (b : BL) (s : RS) (t : WS) (v : Value) (n : Int) (dl : UInt8) (bs : List UInt8) (A : Option Addr) (k : Nat) (w : World) (h : Both w E b s t v) (hroom : Room (left s).length) :
    Calls Tryd.prog 33 #[.pointer (some ⟨b.RW, 0, none⟩), callV ⟨7, n, dl, bs⟩ A k] w (CallGave E b (lineM dl s).1 t v ⟨(lineM dl s).2.1, 0, (lineM dl s).2.2⟩ w) := by
  have h0 := h.below (calW_below w ⟨7, n, dl, bs⟩ A k)
  have hbc := (calW_blk w ⟨7, n, dl, bs⟩ A k).1
  have hbk := (calW_blk w ⟨7, n, dl, bs⟩ A k).2
  have hnx : ¬ rdX b.L (w.heap.size + 1) := fun hx => by have := h.lt _ (.inl hx); omega
  have hny : ¬ wtX b.W v (w.heap.size + 1) := fun hx => by have := h.lt _ (.inr hx); omega
  have cr := h0.rw.cell 0
  simp at cr
  have hm := readString55 E b.L s dl (calW w ⟨7, n, dl, bs⟩ A k).drew h0.rdr.drew h.eof hroom
  have H := Lib.hid (And.intro h (And.intro h0 (And.intro hbk (And.intro hnx (And.intro hm (And.intro (line_eof dl h.rdr.ok h.eof) (line_err dl h.rdr.ok h.eof))))))); clear h h0 hbk hnx hm hny hroom
  obtain ⟨x, hx⟩ : ∃ x, x = lineM dl s := ⟨_, rfl⟩
  rw [← hx] at H ⊢
  clear hx
  have Hw := Lib.hid (calW_below w ⟨7, n, dl, bs⟩ A k)
  simp only [callV, calW, callCells, outCells] at cr H Hw hbc ⊢
  have herr : x.2.2 ≤ 5 := H.out.2.2.2.2.2.2
  go_enter Tryd.func33, Tryd.ntmps33
  go_wp2_with fail
  generalize (w.alloc (.cells #[.int .i64 7, .int .i64 n, .int .u8 (dl.toNat : Int), .slice A bs.length k] 34)).alloc (.cells #[.slice none 0 0, .int .i64 0, .int .i64 0] 36) = w0 at *
  have cc : w0.cell? ⟨w.heap.size, 2, none⟩ = some (.int .u8 (dl.toNat : Int)) := hbc.cell 2
  have k0 := Lib.hid (And.intro cr cc)
  have hwz : w.heap.size < w0.heap.size := hbc.lt
  have hnc : ¬ rdX b.L w.heap.size := fun hx => by have := H.out.1.lt _ (.inl hx); omega
  have Hbc := Lib.hid hbc; clear hbc cr cc
  go_region_held3 (fun w' => w'.cell? ⟨b.RW, 0, none⟩ = some (.pointer (some ⟨b.L.R, 0, none⟩)) ∧ w'.cell? ⟨w.heap.size, 2, none⟩ = some (.int .u8 (dl.toNat : Int))) (first | exact k0.out | exact k1.out)
    (first | (go_at_call 55; refine H.out.2.2.2.2.1.mono ?_; rintro e w1 ⟨rfl, hr1, hk1⟩; have k1 := Lib.hid (And.intro ((hk1.cell (p := ⟨b.RW, 0, none⟩) H.out.2.1.rw.lt H.out.1.nR).trans k0.out.1) ((hk1.cell (p := ⟨w.heap.size, 2, none⟩) hwz hnc).trans k0.out.2)); have HM := Lib.hid (And.intro hr1 hk1); clear k0))
  clear k1
  obtain ⟨hr1, hk1⟩ := HM.out
  have hB1 := H.out.2.1.read (w' := w1) hr1 ((Keep.refl _ _).drew.trans hk1) H.out.2.2.2.2.2.1
  have hblk1 := H.out.2.2.1.keep ((Keep.refl _ _).drew.trans hk1) H.out.2.2.2.1
  obtain ⟨c3, w3, hrun, hb3, hrd3⟩ := conv_bytes x.2.1 w1
  have hB3 := hB1.below hb3
  have hblk := hblk1.below hb3 hblk1.lt
  have d0 := hblk.cell 0
  have d1 := hblk.cell 1
  have d2 := hblk.cell 2
  simp at d0 d1 d2
  have f0 := hblk.frozen 0
  have f1 := hblk.frozen 1
  have f2 := hblk.frozen 2
  have H1 := Lib.hid (And.intro hB1 (And.intro hk1 (And.intro hblk1 (And.intro hB3 (And.intro hb3 (And.intro hrd3 hblk)))))); clear hB1 hk1 hblk hr1 hblk1 hB3 hb3 hrd3
  go_wp2_with fail
  refine (code35 _ E _ H1.out.2.2.2.1.rdr.env x.2.2 herr).mono ?_
  rintro e w2 ⟨rfl, rfl⟩
  go_wp2_with fail
  refine bodyPost_ret (v := .agg (outCells (some ⟨w1.heap.size, 0, none⟩) x.2.1.length c3 0 ((x.2.2 : Nat) : Int))) (by simp [results, Tryd.results33, go_sem, outCells, d0, d1, d2]) rfl ?_
  obtain ⟨hB1, hk1, hblk1, hB3, hb3, hrd3, hblk⟩ := H1.out
  have hsz := Hw.out.size
  have hs1 := hk1.size
  have hs2 : w0.heap.size ≤ w1.heap.size := hs1
  exact call_close (o := ⟨x.2.1, 0, x.2.2⟩) H.out.1 hB3 (fun _ hk => .inl hk) (((Keep.ofBelow Hw.out _).drew.trans (hk1.mono (fun k hx => .inl hx))).trans (Keep.ofBelow hb3 _)) (by omega) hblk hrd3 (fun _ => ⟨_, rfl, by show w.heap.size ≤ w1.heap.size; omega, fun e => by have := hB1.lt _ (.inr (.inr (.inr (.inr e)))); exact Nat.lt_irrefl _ this, fun e => by have := hblk1.lt; have e' : w1.heap.size = w.heap.size + 1 := e; omega⟩) rfl

end Go.Proofs.YtancmlapnhccdaaDoor
