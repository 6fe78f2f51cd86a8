/- Joined by merge.py out of: Cad, Cae, Caf. -/
import Derived.Test.YtancmlapnhccdaaDoorCak
import Derived.Test.YtancmlapnhccdaaDoorRmm

/- impl.call: WriteByte, WriteRune, WriteString (printed by gen_call2.py). -/
namespace Go.Proofs.YtancmlapnhccdaaDoor
open Go.RowKit

theorem outW_far {w1 : World} {g : Nat} {p : Addr} (hp : p.block ≠ g) (a u u' : Value) : (((w1.setCell ⟨g, 0, none⟩ a).setCell ⟨g, 1, none⟩ u).setCell ⟨g, 2, none⟩ u').cell? p = w1.cell? p := by
  rw [World.cell?_setCell_other _ _ _ _ (fun e => hp (by cases e; rfl)), World.cell?_setCell_other _ _ _ _ (fun e => hp (by cases e; rfl)), World.cell?_setCell_other _ _ _ _ (fun e => hp (by cases e; rfl))]

set_option maxRecDepth 100000 in
set_option maxHeartbeats 2000000 in
theorem call_writeByte (E : Nat → Addr) (b : BL) (s : RS) (t : WS) (v : Value) (n : Int) (dl : UInt8) (bs : List UInt8) (A : Option Addr) (k : Nat) (w : World) (h : Both w E b s t v) (hroom : Room (t.got.length + t.n)) :
    Calls Tryd.prog 33 #[.pointer (some ⟨b.RW, 0, none⟩), callV ⟨9, n, dl, bs⟩ A k] w (CallGave E b s (writeByteM t dl) v ⟨[], 0, 0⟩ w) := by
  have h0 := h.below (calW_below w ⟨9, n, dl, bs⟩ A k)
  have hbc := (calW_blk w ⟨9, n, dl, bs⟩ A k).1
  have hbk := (calW_blk w ⟨9, n, dl, bs⟩ A k).2
  have hnx : ¬ rdX b.L (w.heap.size + 1) := fun hx => by have := h.lt _ (.inl hx); omega
  have hny : ¬ wtX b.W v (w.heap.size + 1) := fun hx => by have := h.lt _ (.inr hx); omega
  have cr := h0.rw.cell 1
  simp at cr
  have hm := writeByte56 b.W t v dl (calW w ⟨9, n, dl, bs⟩ A k).drew h0.wtr.drew hroom
  have H := Lib.hid (And.intro h (And.intro h0 (And.intro hbk (And.intro hny hm)))); clear h h0 hbk hnx hm hny hroom
  have Hw := Lib.hid (calW_below w ⟨9, n, dl, bs⟩ A k)
  simp only [callV, calW, callCells, outCells] at cr H Hw hbc ⊢
  go_enter Tryd.func33, Tryd.ntmps33
  go_wp2_with fail
  generalize (w.alloc (.cells #[.int .i64 9, .int .i64 n, .int .u8 (dl.toNat : Int), .slice A bs.length k] 34)).alloc (.cells #[.slice none 0 0, .int .i64 0, .int .i64 0] 36) = w0 at *
  have cc : w0.cell? ⟨w.heap.size, 2, none⟩ = some (.int .u8 (dl.toNat : Int)) := hbc.cell 2
  have hwz : w.heap.size < w0.heap.size := hbc.lt
  have hnc : ¬ wtX b.W v w.heap.size := fun hx => by have := H.out.1.lt _ (.inr hx); omega
  have hne1 : (⟨b.RW, 1, none⟩ : Addr).block ≠ w.heap.size + 1 := fun e => by have := H.out.1.rw.lt; have e' : b.RW = w.heap.size + 1 := e; omega
  have hne2 : (⟨w.heap.size, 2, none⟩ : Addr).block ≠ w.heap.size + 1 := fun e => by have e' : w.heap.size = w.heap.size + 1 := e; omega
  have k0 := Lib.hid (And.intro cr cc)
  have Hbc := Lib.hid hbc; clear hbc cr cc
  go_region_held3 (fun w' => w'.cell? ⟨b.RW, 1, none⟩ = some (.pointer (some ⟨b.W.W, 0, none⟩)) ∧ w'.cell? ⟨w.heap.size, 2, none⟩ = some (.int .u8 (dl.toNat : Int))) (first | exact k0.out | exact k1.out | exact ⟨(outW_far hne1 _ _ _).trans k1.out.1, (outW_far hne2 _ _ _).trans k1.out.2⟩)
    (first
      | (go_at_call 56; refine H.out.2.2.2.2.mono ?_; rintro e w1 ⟨rfl, hn1⟩; obtain ⟨v1, hB1, hv1, hk1⟩ := H.out.2.1.drew.write hn1; have k1 := Lib.hid (And.intro ((hk1.cell (p := ⟨b.RW, 1, none⟩) H.out.2.1.rw.lt H.out.1.nW).trans k0.out.1) ((hk1.cell (p := ⟨w.heap.size, 2, none⟩) hwz hnc).trans k0.out.2)); have hblk := H.out.2.2.1.drew.keep hk1 H.out.2.2.2.1; have d0 := hblk.cell 0; have d1 := hblk.cell 1; have d2 := hblk.cell 2; simp at d0 d1 d2; have f0 := hblk.frozen 0; have f1 := hblk.frozen 1; have f2 := hblk.frozen 2; have HM := Lib.hid (And.intro hB1 (And.intro hv1 (And.intro hk1 hblk))); clear k0 hB1 hv1 hk1 hblk hn1)
      | (go_at_call 35; refine (code35 _ E _ HM.out.1.rdr.env 0 (by omega)).mono ?_; rintro e w2 ⟨rfl, rfl⟩))
  clear k1
  go_wp2_with fail
  refine bodyPost_ret (v := .agg (outCells none 0 0 0 0)) (by simp [results, Tryd.results33, go_sem, outCells, d0, d1, d2]) rfl ?_
  have hsz := Hw.out.size
  obtain ⟨hB1, hv1, hk1, hblk⟩ := HM.out
  exact call_close (o := ⟨[], 0, 0⟩) H.out.1 hB1 (fun k hk => (hv1 k hk).imp id (fun e => Nat.le_trans hsz e)) ((Keep.ofBelow Hw.out _).drew.trans (hk1.mono (fun k hx => .inr hx))) (by omega) hblk Reads.none_ (fun h => absurd h (by simp)) rfl

theorem wrap_i32 (n : Int) : -2147483648 ≤ IntKind.i32.wrap n ∧ IntKind.i32.wrap n ≤ 2147483647 := by
  have h : IntKind.i32.wrap n = (if n % 4294967296 ≥ 2147483648 then n % 4294967296 - 4294967296 else n % 4294967296) := by
    simp [IntKind.wrap, IntKind.signed, IntKind.bits]
  rw [h]
  split <;> omega

set_option maxRecDepth 100000 in
set_option maxHeartbeats 2000000 in
theorem call_writeRune (E : Nat → Addr) (b : BL) (s : RS) (t : WS) (v : Value) (n : Int) (dl : UInt8) (bs : List UInt8) (A : Option Addr) (k : Nat) (w : World) (h : Both w E b s t v) (hroom : Room (t.got.length + t.n + 4)) :
    Calls Tryd.prog 33 #[.pointer (some ⟨b.RW, 0, none⟩), callV ⟨10, n, dl, bs⟩ A k] w (CallGave E b s (writeRuneM t (IntKind.i32.wrap n)) v ⟨[], ((encM (IntKind.i32.wrap n)).length : Nat), 0⟩ w) := by
  have h0 := h.below (calW_below w ⟨10, n, dl, bs⟩ A k)
  have hbc := (calW_blk w ⟨10, n, dl, bs⟩ A k).1
  have hbk := (calW_blk w ⟨10, n, dl, bs⟩ A k).2
  have hnx : ¬ rdX b.L (w.heap.size + 1) := fun hx => by have := h.lt _ (.inl hx); omega
  have hny : ¬ wtX b.W v (w.heap.size + 1) := fun hx => by have := h.lt _ (.inr hx); omega
  have cr := h0.rw.cell 1
  simp at cr
  have hi32 := wrap_i32 n
  have hm := writeRune57 b.W t v (IntKind.i32.wrap n) hi32.1 hi32.2 (calW w ⟨10, n, dl, bs⟩ A k).drew h0.wtr.drew hroom
  have H := Lib.hid (And.intro h (And.intro h0 (And.intro hbk (And.intro hny hm)))); clear h h0 hbk hnx hm hny hroom
  have Hw := Lib.hid (calW_below w ⟨10, n, dl, bs⟩ A k)
  simp only [callV, calW, callCells, outCells] at cr H Hw hbc ⊢
  go_enter Tryd.func33, Tryd.ntmps33
  go_wp2_with fail
  generalize (w.alloc (.cells #[.int .i64 10, .int .i64 n, .int .u8 (dl.toNat : Int), .slice A bs.length k] 34)).alloc (.cells #[.slice none 0 0, .int .i64 0, .int .i64 0] 36) = w0 at *
  obtain ⟨el, hel⟩ : ∃ el, el = (encM (IntKind.i32.wrap n)).length := ⟨_, rfl⟩
  rw [← hel] at H
  have Hel := Lib.hid hel
  clear hel hi32
  have cc : w0.cell? ⟨w.heap.size, 1, none⟩ = some (.int .i64 n) := hbc.cell 1
  have k0 := Lib.hid (And.intro cr cc)
  have hwz : w.heap.size < w0.heap.size := hbc.lt
  have hnc : ¬ wtX b.W v w.heap.size := fun hx => by have := H.out.1.lt _ (.inr hx); omega
  have Hbc := Lib.hid hbc; clear hbc cr cc
  go_region_held3 (fun w' => w'.cell? ⟨b.RW, 1, none⟩ = some (.pointer (some ⟨b.W.W, 0, none⟩)) ∧ w'.cell? ⟨w.heap.size, 1, none⟩ = some (.int .i64 n)) (first | exact k0.out | exact k1.out)
    (first | (go_at_call 57; refine H.out.2.2.2.2.mono ?_; rintro e w1 ⟨rfl, hn1⟩; obtain ⟨v1, hB1, hv1, hk1⟩ := H.out.2.1.drew.write hn1; have k1 := Lib.hid (And.intro ((hk1.cell (p := ⟨b.RW, 1, none⟩) H.out.2.1.rw.lt H.out.1.nW).trans k0.out.1) ((hk1.cell (p := ⟨w.heap.size, 1, none⟩) hwz hnc).trans k0.out.2)); have HM := Lib.hid (And.intro hB1 (And.intro hv1 hk1)); clear k0 hB1 hv1 hk1 hn1))
  clear k1
  have hblk := H.out.2.2.1.drew.keep HM.out.2.2 H.out.2.2.2.1
  have d0 := hblk.cell 0
  have d1 := hblk.cell 1
  have d2 := hblk.cell 2
  simp at d0 d1 d2
  have f0 := hblk.frozen 0
  have f1 := hblk.frozen 1
  have f2 := hblk.frozen 2
  have Hblk := Lib.hid hblk; clear hblk
  go_wp2_with fail
  refine (code35 _ E _ HM.out.1.rdr.env 0 (by omega)).mono ?_
  rintro e w2 ⟨rfl, rfl⟩
  go_wp2_with fail
  refine bodyPost_ret (v := .agg (outCells none 0 0 ((el : Int)) 0)) (by simp [results, Tryd.results33, go_sem, outCells, d0, d1, d2]) rfl ?_
  have hsz := Hw.out.size
  rw [← Hel.out]
  obtain ⟨hB1, hv1, hk1⟩ := HM.out
  exact call_close (o := ⟨[], (el : Int), 0⟩) H.out.1 hB1 (fun k hk => (hv1 k hk).imp id (fun e => Nat.le_trans hsz e)) ((Keep.ofBelow Hw.out _).drew.trans (hk1.mono (fun k hx => .inr hx))) (by omega) Hblk.out Reads.none_ (fun h => absurd h (by simp)) rfl

set_option maxRecDepth 100000 in
set_option maxHeartbeats 2000000 in
theorem call_writeString (E : Nat → Addr) (b : BL) (s : RS) (t : WS) (v : Value) (n : Int) (dl : UInt8) (bs : List UInt8) (A : Option Addr) (k : Nat) (w : World) (h : Both w E b s t v) (hrd : Reads w b.L.B 1 A bs.length (bvs bs)) (hroom : Room (t.got.length + t.n + bs.length)) :
    Calls Tryd.prog 33 #[.pointer (some ⟨b.RW, 0, none⟩), callV ⟨11, n, dl, bs⟩ A k] w (CallGave E b s (strM t bs) v ⟨[], (bs.length : Nat), 0⟩ w) := by
  have h0 := h.below (calW_below w ⟨11, n, dl, bs⟩ A k)
  have hbc := (calW_blk w ⟨11, n, dl, bs⟩ A k).1
  have hbk := (calW_blk w ⟨11, n, dl, bs⟩ A k).2
  have hnx : ¬ rdX b.L (w.heap.size + 1) := fun hx => by have := h.lt _ (.inl hx); omega
  have hny : ¬ wtX b.W v (w.heap.size + 1) := fun hx => by have := h.lt _ (.inr hx); omega
  have cr := h0.rw.cell 1
  simp at cr
  have hm := writeString58 b.W t v bs (calW w ⟨11, n, dl, bs⟩ A k).drew h0.wtr.drew hroom
  have hrd0 : Reads (calW w ⟨11, n, dl, bs⟩ A k) b.L.B 1 A bs.length (bvs bs) := hrd.kept (Keep.ofBelow (calW_below w ⟨11, n, dl, bs⟩ A k) (fun _ => False)) h.rdr.size (fun _ h => h.elim)
  have Hrd := Lib.hid hrd0; clear hrd hrd0
  have H := Lib.hid (And.intro h (And.intro h0 (And.intro hbk (And.intro hny hm)))); clear h h0 hbk hnx hm hny hroom
  have Hw := Lib.hid (calW_below w ⟨11, n, dl, bs⟩ A k)
  simp only [callV, calW, callCells, outCells] at cr H Hw Hrd hbc ⊢
  go_enter Tryd.func33, Tryd.ntmps33
  go_wp2_with fail
  generalize (w.alloc (.cells #[.int .i64 11, .int .i64 n, .int .u8 (dl.toNat : Int), .slice A bs.length k] 34)).alloc (.cells #[.slice none 0 0, .int .i64 0, .int .i64 0] 36) = w0 at *
  have cc : w0.cell? ⟨w.heap.size, 3, none⟩ = some (.slice A bs.length k) := hbc.cell 3
  have k0 := Lib.hid (And.intro cr (And.intro cc (conv_str (w := w0.drew) (c := k) Hrd.out)))
  have hwz : w.heap.size < w0.heap.size := hbc.lt
  have hnc : ¬ wtX b.W v w.heap.size := fun hx => by have := H.out.1.lt _ (.inr hx); omega
  have Hbc := Lib.hid hbc; clear hbc cr cc
  go_region_held3 (fun w' => w'.cell? ⟨b.RW, 1, none⟩ = some (.pointer (some ⟨b.W.W, 0, none⟩)) ∧ w'.cell? ⟨w.heap.size, 3, none⟩ = some (.slice A bs.length k) ∧ (convert 25 9 (.slice A bs.length k)).run Tryd.prog w' = .ok (.string (strOf bs)) w') (first | exact k0.out | exact k1.out)
    (first | (go_at_call 58; refine H.out.2.2.2.2.mono ?_; rintro e w1 ⟨rfl, hn1⟩; obtain ⟨v1, hB1, hv1, hk1⟩ := H.out.2.1.drew.write hn1; have k1 := Lib.hid (And.intro ((hk1.cell (p := ⟨b.RW, 1, none⟩) H.out.2.1.rw.lt H.out.1.nW).trans k0.out.1) (And.intro ((hk1.cell (p := ⟨w.heap.size, 3, none⟩) hwz hnc).trans k0.out.2.1) (conv_str (c := k) (Reads.kept (w := w0.drew) Hrd.out hk1 H.out.2.1.rdr.size (fun k hx => H.out.2.1.ge k (.inr hx)))))); have HM := Lib.hid (And.intro hB1 (And.intro hv1 hk1)); clear k0 hB1 hv1 hk1 hn1))
  clear k1
  have hblk := H.out.2.2.1.drew.keep HM.out.2.2 H.out.2.2.2.1
  have d0 := hblk.cell 0
  have d1 := hblk.cell 1
  have d2 := hblk.cell 2
  simp at d0 d1 d2
  have f0 := hblk.frozen 0
  have f1 := hblk.frozen 1
  have f2 := hblk.frozen 2
  have Hblk := Lib.hid hblk; clear hblk
  go_wp2_with fail
  refine (code35 _ E _ HM.out.1.rdr.env 0 (by omega)).mono ?_
  rintro e w2 ⟨rfl, rfl⟩
  go_wp2_with fail
  refine bodyPost_ret (v := .agg (outCells none 0 0 (((bs.length : Nat) : Int)) 0)) (by simp [results, Tryd.results33, go_sem, outCells, d0, d1, d2]) rfl ?_
  have hsz := Hw.out.size
  obtain ⟨hB1, hv1, hk1⟩ := HM.out
  exact call_close (o := ⟨[], ((bs.length : Nat) : Int), 0⟩) H.out.1 hB1 (fun k hk => (hv1 k hk).imp id (fun e => Nat.le_trans hsz e)) ((Keep.ofBelow Hw.out _).drew.trans (hk1.mono (fun k hx => .inr hx))) (by omega) Hblk.out Reads.none_ (fun h => absurd h (by simp)) rfl

end Go.Proofs.YtancmlapnhccdaaDoor

/- impl.call: Write (printed by gen_call3.py). -/
namespace Go.Proofs.YtancmlapnhccdaaDoor
open Go.RowKit

/-- behind append([]byte{}, c.Bytes...): a new row that is apart from the writer -/
theorem wr_new {E : Nat → Addr} {b : BL} {s : RS} {t : WS} {v v3 : Value} {w0 w3 : World} {g n : Nat} {cs : Array Value} {bs : List UInt8} (hn : n = bs.length) (h : Both w0 E b s t v) (hb : Blk w0 g 36 cs) (ho : w3.ownsRow w0.heap.size 5 1 v3 (0 + n) ([] ++ bvs bs))
    (hg : ((w0.alloc (.cells #[] 5)).drew).grownBy w3 (Value.slice (some ⟨w0.heap.size, 0, none⟩) 0 0).ownBlock) (hat : v3.ownBlock = (Value.slice (some ⟨w0.heap.size, 0, none⟩) 0 0).ownBlock ∨ v3.ownBlock = some ((w0.alloc (.cells #[] 5)).drew).heap.size) :
    ∃ g3 c3, v3 = .slice (some ⟨g3, 0, none⟩) bs.length c3 ∧ Both w3 E b s t v ∧ Blk w3 g 36 cs ∧ Below w0.heap.size w0 w3 ∧ RowAt w3 g3 0 bs ∧ g3 < w3.heap.size ∧ ¬ wtX b.W v g3 ∧ bs.length ≤ c3 := by
  simp only [Nat.zero_add, List.nil_append] at ho
  have hbl : Below w0.heap.size w0 w3 := (((Below.refl _ _).alloc (Nat.le_refl _) _).drew).grown hg (by simp) (fun k hk => by simp [Value.ownBlock] at hk; omega)
  have hne : v3.ownBlock ≠ none := by rcases hat with e | e <;> rw [e] <;> simp [Value.ownBlock]
  have hlt := ho.lt
  rcases ho.2 with ⟨rfl, _⟩ | ⟨g3, c3, cur, rfl, hbg, hg3, hnc, hcm, hcs, htk⟩
  · exact absurd rfl hne
  · have hge : w0.heap.size ≤ g3 := (hlt g3 rfl).1
    refine ⟨g3, c3, by rw [hn], h.below hbl, hb.below hbl hb.lt, hbl, ?_, (hlt g3 rfl).2, fun hx => ?_, by omega⟩
    · intro j x hj
      have hrd := Reads.of_own ho
      have hjl : j < bs.length := (List.getElem?_eq_some_iff.1 hj).1
      obtain ⟨ad, e, _, hc⟩ := hrd.2 (by omega)
      injection e with e
      subst e
      have := hc j (bv x) (by rw [bvs_get, hj]; rfl)
      rw [add_mk] at this
      exact this
    · have := h.lt g3 (.inr hx); omega

set_option maxRecDepth 100000 in
set_option maxHeartbeats 2000000 in
theorem call_write (E : Nat → Addr) (b : BL) (s : RS) (t : WS) (v : Value) (n : Int) (dl : UInt8) (bs : List UInt8) (A : Option Addr) (k : Nat) (w : World) (h : Both w E b s t v) (hrd : Reads w b.L.B 1 A bs.length (bvs bs)) (hroom : Room (t.got.length + t.n + bs.length)) :
    Calls Tryd.prog 33 #[.pointer (some ⟨b.RW, 0, none⟩), callV ⟨8, n, dl, bs⟩ A k] w (CallGave E b s (writeM t bs) v ⟨[], (bs.length : Nat), 0⟩ w) := by
  have h0 := h.below (calW_below w ⟨8, n, dl, bs⟩ A k)
  have hbc := (calW_blk w ⟨8, n, dl, bs⟩ A k).1
  have hbk := (calW_blk w ⟨8, n, dl, bs⟩ A k).2
  have hnx : ¬ rdX b.L (w.heap.size + 1) := fun hx => by have := h.lt _ (.inl hx); omega
  have hny : ¬ wtX b.W v (w.heap.size + 1) := fun hx => by have := h.lt _ (.inr hx); omega
  have cr := h0.rw.cell 1
  simp at cr
  have hrd0 : Reads (calW w ⟨8, n, dl, bs⟩ A k) b.L.B 1 A bs.length (bvs bs) := hrd.kept (Keep.ofBelow (calW_below w ⟨8, n, dl, bs⟩ A k) (fun _ => False)) h.rdr.size (fun _ h => h.elim)
  have H := Lib.hid (And.intro h (And.intro h0 (And.intro hbk (And.intro hny (And.intro hroom hrd0))))); clear h h0 hbk hnx hny hroom hrd hrd0
  have Hw := Lib.hid (calW_below w ⟨8, n, dl, bs⟩ A k)
  simp only [callV, calW, callCells, outCells] at cr H Hw hbc ⊢
  obtain ⟨i0, hi0, hz0, hz1, hz2⟩ := info_parts Tryd.info5
  have HI := Lib.hid (And.intro hi0 (And.intro hz0 (And.intro hz1 hz2))); clear hi0 hz0 hz1 hz2
  go_enter Tryd.func33, Tryd.ntmps33
  go_wp2_with fail
  generalize (w.alloc (.cells #[.int .i64 8, .int .i64 n, .int .u8 (dl.toNat : Int), .slice A bs.length k] 34)).alloc (.cells #[.slice none 0 0, .int .i64 0, .int .i64 0] 36) = w0 at *
  have cc : w0.cell? ⟨w.heap.size, 3, none⟩ = some (.slice A bs.length k) := hbc.cell 3
  have hwz : w.heap.size < w0.heap.size := hbc.lt
  have hnc : ¬ wtX b.W v w.heap.size := fun hx => by have := H.out.1.lt _ (.inr hx); omega
  have hrwz : b.RW < w0.heap.size := H.out.2.1.rw.lt
  have k0 := Lib.hid (And.intro cr cc)
  have ka := Lib.hid (And.intro ((World.cell?_alloc_lt w0 (.cells #[] 5) ⟨b.RW, 1, none⟩ hrwz).trans cr) ((World.cell?_alloc_lt w0 (.cells #[] 5) ⟨w.heap.size, 3, none⟩ hwz).trans cc))
  have hown : ((w0.alloc (.cells #[] 5)).drew).ownsRow w0.heap.size 5 1 (.slice (some ⟨w0.heap.size, 0, none⟩) 0 0) 0 [] := own_keep (World.ownsRow_made w0 #[] 0 (Nat.le_refl _) (by simp [maxLen]) (by simp)) ((Keep.refl (fun _ => False) _).drew) (fun _ _ h => h)
  have hr2 : Reads ((w0.alloc (.cells #[] 5)).drew) b.L.B 1 A bs.length (bvs bs) := (H.out.2.2.2.2.2.alloc H.out.2.1.rdr.size _).drew
  have hrm : Room (0 + bs.length) := by rw [Nat.zero_add]; exact H.out.2.2.2.2.1.mono (by omega)
  have hszz : w0.heap.size ≤ ((w0.alloc (.cells #[] 5)).drew).heap.size := by show w0.heap.size ≤ (w0.alloc _).heap.size; simp
  have HP := Lib.hid (And.intro hown (And.intro hr2 (And.intro (bvs_one bs) (And.intro hrm hszz)))); clear hown hr2 hrm hszz
  have Hbc := Lib.hid hbc; clear hbc cr cc
  go_region_held3 (fun w' => w'.cell? ⟨b.RW, 1, none⟩ = some (.pointer (some ⟨b.W.W, 0, none⟩)) ∧ w'.cell? ⟨w.heap.size, 3, none⟩ = some (.slice A bs.length k)) (first | exact k0.out | exact ka.out | exact k2.out | exact k1.out)
    (first
      | (go_at_call 36; refine HC.out.mono ?_; rintro e w1 ⟨rfl, hn1⟩; obtain ⟨v1, hB1, hv1, hk1⟩ := H3.out.1.write hn1; have k1 := Lib.hid (And.intro ((hk1.cell (p := ⟨b.RW, 1, none⟩) (Nat.lt_of_lt_of_le hrwz H3.out.2.2.size) H.out.1.nW).trans k2.out.1) ((hk1.cell (p := ⟨w.heap.size, 3, none⟩) (Nat.lt_of_lt_of_le hwz H3.out.2.2.size) hnc).trans k2.out.2)); have HM := Lib.hid (And.intro hB1 (And.intro hv1 hk1)); clear k0 ka k2 hB1 hv1 hk1 hn1)
      | (refine step_append_any _ (by rfl) (.tmp 153) (.tmp 155) _ (by rfl) w0.heap.size 5 i0 _ 1 1 Tryd.underlying25 HI.out.1 HI.out.2.1 HI.out.2.2.1 HI.out.2.2.2 rfl (by omega) (.slice (some ⟨w0.heap.size, 0, none⟩) 0 0) 0 [] (by rfl) HP.out.1 b.L.B A bs.length k (bvs bs) (by rfl) HP.out.2.1 HP.out.2.2.1 HP.out.2.2.2.1.len (HP.out.2.2.2.1.bytes 1 (by omega)) HP.out.2.2.2.2 ?_; intro v3 w3 hown3 hg3 hat3; obtain ⟨g3, c3, rfl, hB3, hblk3, hbl3, hrow3, hlt3, hnx3, hcp3⟩ := wr_new rfl H.out.2.1 H.out.2.2.1 hown3 hg3 hat3; have HC := Lib.hid (write36 b.W t v bs g3 0 c3 w3 hB3.wtr hrow3 hlt3 hnx3 hcp3 H.out.2.2.2.2.1); have k2 := Lib.hid (And.intro ((hbl3.cell (p := ⟨b.RW, 1, none⟩) hrwz).trans k0.out.1) ((hbl3.cell (p := ⟨w.heap.size, 3, none⟩) hwz).trans k0.out.2)); have H3 := Lib.hid (And.intro hB3 (And.intro hblk3 hbl3)); clear hB3 hblk3 hbl3 hrow3 hlt3 hnx3 hcp3 hown3 hg3 hat3)
      | fail)
  clear k1
  have hblk := H3.out.2.1.keep HM.out.2.2 H.out.2.2.2.1
  have d0 := hblk.cell 0
  have d1 := hblk.cell 1
  have d2 := hblk.cell 2
  simp at d0 d1 d2
  have f0 := hblk.frozen 0
  have f1 := hblk.frozen 1
  have f2 := hblk.frozen 2
  have Hblk := Lib.hid hblk; clear hblk
  go_wp2_with fail
  refine (code35 _ E _ HM.out.1.rdr.env 0 (by omega)).mono ?_
  rintro e w2 ⟨rfl, rfl⟩
  go_wp2_with fail
  refine bodyPost_ret (v := .agg (outCells none 0 0 ((bs.length : Nat) : Int) 0)) (by simp [results, Tryd.results33, go_sem, outCells, d0, d1, d2]) rfl ?_
  have hsz := Hw.out.size
  have hsz3 := H3.out.2.2.size
  obtain ⟨hB1, hv1, hk1⟩ := HM.out
  exact call_close (o := ⟨[], ((bs.length : Nat) : Int), 0⟩) H.out.1 hB1 (fun k hk => (hv1 k hk).imp id (fun e => Nat.le_trans hsz (Nat.le_trans hsz3 e))) (((Keep.ofBelow Hw.out _).trans (Keep.ofBelow H3.out.2.2 _)).trans (hk1.mono (fun k hx => .inr hx))) (by omega) Hblk.out Reads.none_ (fun h => absurd h (by simp)) rfl

end Go.Proofs.YtancmlapnhccdaaDoor

/- impl.call: ReadRune (printed by gen_call3.py). -/
namespace Go.Proofs.YtancmlapnhccdaaDoor
open Go.RowKit

theorem CallGave.drew {E : Nat → Addr} {b : BL} {s' : RS} {t' : WS} {v : Value} {o : OutD} {w w' : World} {e : Ending} (h : CallGave E b s' t' v o w e w') : CallGave E b s' t' v o w e w'.drew := by
  obtain ⟨v', A, c, h1, h2, h3, h4, h5, h6⟩ := h
  exact ⟨v', A, c, h1.drew, h2, h3.drew, h4, h5.drew, h6⟩

set_option maxRecDepth 100000 in
set_option maxHeartbeats 2000000 in
theorem call_readRune (E : Nat → Addr) (b : BL) (s : RS) (t : WS) (v : Value) (n : Int) (dl : UInt8) (bs : List UInt8) (A : Option Addr) (k : Nat) (w : World) (h : Both w E b s t v) :
    Calls Tryd.prog 33 #[.pointer (some ⟨b.RW, 0, none⟩), callV ⟨1, n, dl, bs⟩ A k] w (CallGave E b (readRuneM s).1 t v ⟨List.replicate (readRuneM s).2.2.1 0, ((readRuneM s).2.1 : Int), (readRuneM s).2.2.2⟩ w) := by
  have h0 := h.below (calW_below w ⟨1, n, dl, bs⟩ A k)
  have hbc := (calW_blk w ⟨1, n, dl, bs⟩ A k).1
  have hbk := (calW_blk w ⟨1, n, dl, bs⟩ A k).2
  have hnx : ¬ rdX b.L (w.heap.size + 1) := fun hx => by have := h.lt _ (.inl hx); omega
  have hny : ¬ wtX b.W v (w.heap.size + 1) := fun hx => by have := h.lt _ (.inr hx); omega
  have cr := h0.rw.cell 0
  simp at cr
  have hm := readRune49 E b.L s _ h0.rdr h0.tabs
  have H := Lib.hid (And.intro h (And.intro h0 (And.intro hbk (And.intro hnx (And.intro hm (And.intro (readRune_eof h.rdr.ok h.eof) (readRune_err h.rdr.ok))))))); clear h h0 hbk hnx hm hny hbc
  obtain ⟨x, hx⟩ : ∃ x, x = readRuneM s := ⟨_, rfl⟩
  rw [← hx] at H ⊢
  clear hx
  have Hw := Lib.hid (calW_below w ⟨1, n, dl, bs⟩ A k)
  simp only [callV, calW, callCells, outCells] at cr H Hw ⊢
  obtain ⟨y, rn, sz, er⟩ := x
  have hrn : rn ≤ 1114111 := H.out.2.2.2.2.2.2.2.1
  have hsz : sz ≤ 4 := H.out.2.2.2.2.2.2.2.2
  have herr : er ≤ 5 := H.out.2.2.2.2.2.2.1
  have hmk := make_bytesR sz (by omega)
  simp only
  go_enter Tryd.func33, Tryd.ntmps33
  go_wp2_with fail
  refine H.out.2.2.2.2.1.mono ?_
  rintro e w1 ⟨rfl, hr1, hk1⟩
  have hB1 := H.out.2.1.read hr1 hk1 H.out.2.2.2.2.2.1
  have hblk := H.out.2.2.1.keep hk1 H.out.2.2.2.1
  have hbl2 : Below w1.heap.size w1 (w1.alloc (.cells (bvs (zeros sz)).toArray 5)) := (Below.refl _ _).alloc (Nat.le_refl _) _
  have hblk2 := hblk.below hbl2 hblk.lt
  have d0 := hblk2.cell 0
  have d1 := hblk2.cell 1
  have d2 := hblk2.cell 2
  simp at d0 d1 d2
  have f0 := hblk2.frozen 0
  have f1 := hblk2.frozen 1
  have f2 := hblk2.frozen 2
  have hcd := fun W (hb : Below w1.heap.size w1 W) => code35 b.L.B E W (hB1.below hb).rdr.env er herr
  have Hcd := Lib.hid hcd; clear hcd
  have H1 := Lib.hid (And.intro hB1 (And.intro hk1 (And.intro hblk (And.intro hbl2 hblk2)))); clear hB1 hk1 hblk hr1 hbl2 hblk2
  clear cr
  go_wp2_with fail
  have hwr : IntKind.i64.wrap (rn : Int) = (rn : Int) := IntWalk.i64_in _ (by omega)
  have hbA : Below w1.heap.size w1 w1.drew := (Below.refl _ _).drew
  have hbB : Below w1.heap.size w1 (w1.alloc (.cells (bvs (zeros sz)).toArray 5)).drew := H1.out.2.2.2.1.drew
  have hne1 : (⟨b.RW, 0, none⟩ : Addr).block ≠ w.heap.size + 1 := fun e => by have := H.out.1.rw.lt; have e' : b.RW = w.heap.size + 1 := e; omega
  have hcr : w1.cell? ⟨b.RW, 0, none⟩ = some (.pointer (some ⟨b.L.R, 0, none⟩)) := H1.out.1.rw.cell 0
  have k0 := Lib.hid hcr
  have ka := Lib.hid ((World.cell?_alloc_lt w1 (.cells (bvs (zeros sz)).toArray 5) ⟨b.RW, 0, none⟩ H1.out.1.rw.lt).trans hcr)
  clear hcr
  have HA := Lib.hid (And.intro hbA hbB); clear hbA hbB
  go_region_held3 (fun w' => w'.cell? ⟨b.RW, 0, none⟩ = some (.pointer (some ⟨b.L.R, 0, none⟩))) (first | exact k0.out | exact ka.out | exact (outW_far hne1 _ _ _).trans ka.out)
    (first
      | (go_at_call 35; (with_reducible refine (Hcd.out _ HA.out.1).mono ?_); rintro e w2 ⟨rfl, rfl⟩)
      | (go_at_call 35; (with_reducible refine (Hcd.out _ HA.out.2).mono ?_); rintro e w2 ⟨rfl, rfl⟩)
      | fail)
  all_goals go_wp2_with fail
  all_goals refine bodyPost_ret (v := .agg (outCells (some ⟨w1.heap.size, 0, none⟩) sz sz (rn : Int) ((er : Nat) : Int))) (by simp [results, Tryd.results33, go_sem, outCells, d0, d1, d2]) rfl ?_
  all_goals
    obtain ⟨hB1, hk1, hblk, hbl2, hblk2⟩ := H1.out
    have hB2 := hB1.below hbl2
    have hbz : Blk (w1.alloc (.cells (bvs (zeros sz)).toArray 5)) w1.heap.size 5 (bvs (zeros sz)).toArray := Blk.new w1 5 _
    have hrd : Reads (w1.alloc (.cells (bvs (zeros sz)).toArray 5)) (w1.alloc (.cells (bvs (zeros sz)).toArray 5)).heap.size 1 (some ⟨w1.heap.size, 0, none⟩) (List.replicate sz (0 : UInt8)).length (bvs (List.replicate sz 0)) := by
      have := Reads.of_blk (A := some ⟨w1.heap.size, 0, none⟩) hbz 0 sz (by rw [bvs_length, zeros_length]; omega) (fun _ => rfl)
      rw [List.drop_zero, List.take_of_length_le (by rw [bvs_length, zeros_length]; exact Nat.le_refl _)] at this
      rw [List.length_replicate]
      exact this.more (by have := hbz.lt; omega)
    have hs1 := Hw.out.size
    have hs2 := hk1.size
    have hcl := call_close (o := ⟨List.replicate sz 0, (rn : Int), er⟩) (A := some ⟨w1.heap.size, 0, none⟩) (c := sz) H.out.1 hB2 (fun _ hk => .inl hk) (((Keep.ofBelow Hw.out _).trans (hk1.mono (fun k hx => .inl hx))).trans (Keep.ofBelow hbl2 _)) (by omega) hblk2 hrd (fun _ => ⟨_, rfl, by show w.heap.size ≤ w1.heap.size; exact Nat.le_trans hs1 hs2, fun e => by have := hB1.lt _ (.inr (.inr (.inr (.inr e)))); exact Nat.lt_irrefl _ this, fun e => by have := hblk.lt; have e' : w1.heap.size = w.heap.size + 1 := e; omega⟩) rfl
    simp only [List.length_replicate] at hcl
    exact hcl.drew

end Go.Proofs.YtancmlapnhccdaaDoor
