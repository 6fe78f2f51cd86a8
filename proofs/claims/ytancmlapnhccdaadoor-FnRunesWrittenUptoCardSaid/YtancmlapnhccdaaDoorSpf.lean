/- spec's reader.call: what lies where; the cases without bytes (printed by gen_scall.py). -/
import Derived.Test.YtancmlapnhccdaaDoorSpc
import Derived.Test.YtancmlapnhccdaaDoorSpe
namespace Go.Proofs.YtancmlapnhccdaaDoor
open Go.RowKit

structure SR.Ok (r : SR) : Prop where
  pos : r.pos ≤ r.data.length
  size : r.size ≤ r.pos
  bytes : r.bytes = true → 0 < r.pos
theorem sr0_ok (d : List UInt8) : (sr0 d).Ok := ⟨Nat.zero_le _, Nat.zero_le _, fun h => by simp [sr0] at h⟩
theorem SR.read_ok {r : SR} (h : r.Ok) (n k : Nat) (hn : n ≤ r.rest.length) (hk : k ≤ n) : (r.read n k).Ok := by
  have := h.pos
  rw [rest_len] at hn
  refine ⟨?_, ?_, ?_⟩
  · show r.pos + n ≤ r.data.length; omega
  · show k ≤ r.pos + n; omega
  · intro h0
    have h0 : decide (0 < n) = true := h0
    have : 0 < n := by simpa using h0
    show 0 < r.pos + n
    omega
theorem SR.on_ok {r : SR} (h : r.Ok) (n : Nat) (hn : n ≤ r.rest.length) : (r.on n).Ok := by
  have := h.pos
  rw [rest_len] at hn
  exact ⟨by show r.pos + n ≤ r.data.length; omega, Nat.zero_le _, fun h => by simp [SR.on] at h⟩
theorem SR.back_ok {r : SR} (h : r.Ok) (n : Nat) : (r.back n).Ok := ⟨Nat.le_trans (Nat.sub_le _ _) h.pos, Nat.zero_le _, fun h => by simp [SR.back] at h⟩
theorem SR.doubt_ok {r : SR} (h : r.Ok) (b : Bool) : ({ r with doubt := b } : SR).Ok := ⟨h.pos, h.size, h.bytes⟩

/-- spec.reader at block R; its data lie below -/
structure SRAt (w : World) (R : Nat) (A : Option Addr) (c : Nat) (r : SR) : Prop where
  blk : Blk w R 58 (srCells A c r)
  rd : Reads w R 1 A r.data.length (bvs r.data)
  cap : r.data.length ≤ c
  nil : A = none → c = 0
  room : Room r.data.length
  ok : r.Ok
section
variable {w w' w2 : World} {R : Nat} {A : Option Addr} {c : Nat} {r r' : SR}
theorem SRAt.below (h : SRAt w R A c r) (hb : Below w.heap.size w w') : SRAt w' R A c r :=
  ⟨h.blk.below hb h.blk.lt, h.rd.below (hb.mono (Nat.le_of_lt h.blk.lt)), h.cap, h.nil, h.room, h.ok⟩
theorem SRAt.keep {X : Nat → Prop} (h : SRAt w R A c r) (hk : Keep X w w') (hX : ∀ k, X k → R < k) : SRAt w' R A c r :=
  ⟨h.blk.keep hk (fun hx => Nat.lt_irrefl _ (hX _ hx)), h.rd.below (hk.below (fun k hx => Nat.le_of_lt (hX k hx)) (Nat.le_of_lt h.blk.lt)), h.cap, h.nil, h.room, h.ok⟩
theorem SRAt.next (h : SRAt w R A c r) (hb : Blk w2 R 58 (srCells A c r')) (hk : Keep (· = R) w w2) (hd : r'.data = r.data) (ho : r'.Ok) : SRAt w2 R A c r' :=
  ⟨hb, by rw [hd]; exact h.rd.below (hk.below (fun k e => by omega) (Nat.le_of_lt h.blk.lt)), by rw [hd]; exact h.cap, h.nil, by rw [hd]; exact h.room, ho⟩
theorem SRAt.rest (h : SRAt w R A c r) : ∃ Ar cr, Reads w R 1 Ar r.rest.length (bvs r.rest) ∧ r.rest.length ≤ cr ∧ (Ar = none → cr = 0) ∧ ∀ w, (Instr.slice 25 (.slice A r.data.length c) (some (.int .i64 (r.pos : Nat))) none none).run Tryd.prog w = .ok (.slice Ar r.rest.length cr) w := by
  have hp := h.ok.pos
  have hc := h.cap
  have hr := h.rd.cut hp hc
  simp only [Nat.mul_one] at hr
  have hl : r.rest.length = r.data.length - r.pos := rest_len
  refine ⟨cutS A c r.pos, c - r.pos, ?_, by omega, fun hA => ?_, fun w => ?_⟩
  · rw [hl]
    unfold SR.rest
    rw [bvs_drop]
    exact hr
  · unfold cutS at hA
    have hcz : A = none → c - r.pos = 0 := fun e => by have := h.nil e; omega
    split at hA
    · exact hcz hA
    · rcases A with _ | ad
      · exact hcz rfl
      · cases hA
  · rw [hl]
    exact slice_from A r.data.length c r.pos hp hc h.nil w
end

/-- behind the head of reader.call -/
structure SIn (w w0 : World) (R : Nat) (A : Option Addr) (c : Nat) (r : SR) (cc : Array Value) : Prop where
  at_ : SRAt w0 R A c r
  cal : Blk w0 w.heap.size 34 cc
  out : Blk w0 (w.heap.size + 1) 36 (outCells none 0 0 0 0)
  keep : Keep (· = R) w w0
  lt : R < w.heap.size
section
variable {w w0 w2 : World} {R : Nat} {A : Option Addr} {c : Nat} {r r' : SR} {cc : Array Value}
theorem sin_mk (h : SRAt w R A c r) (x : CallD) (A' : Option Addr) (k nq : Nat) : SIn w ((calW w x A' k).drewN nq) R A c r (callCells x A' k) :=
  ⟨(h.below (calW_below w x A' k)).keep ((Keep.refl (fun _ => False) _).drewN nq) (fun _ h => h.elim), ((calW_blk w x A' k).1).drewN nq, ((calW_blk w x A' k).2).drewN nq, (Keep.ofBelow (calW_below w x A' k) _).drewN nq, h.blk.lt⟩
theorem SIn.next (h : SIn w w0 R A c r cc) (hb : Blk w2 R 58 (srCells A c r')) (hk : Keep (· = R) w0 w2) (hd : r'.data = r.data) (ho : r'.Ok) : SIn w w2 R A c r' cc := by
  have := h.lt
  exact ⟨h.at_.next hb hk hd ho, h.cal.keep hk (by omega), h.out.keep hk (by omega), h.keep.trans hk, h.lt⟩
theorem SIn.below (h : SIn w w0 R A c r cc) (hb : Below w0.heap.size w0 w2) : SIn w w2 R A c r cc :=
  ⟨h.at_.below hb, h.cal.below hb h.cal.lt, h.out.below hb h.out.lt, h.keep.trans (Keep.ofBelow hb _), h.lt⟩
theorem SIn.setD (h : SIn w w0 R A c r cc) (b : Bool) : SIn w (w0.setCell ⟨R, 4, none⟩ (.bool b)) R A c { r with doubt := b } cc := by
  refine h.next ?_ ((Keep.refl (· = R) w0).setCell (p := ⟨R, 4, none⟩) (.inl rfl) _) rfl (SR.doubt_ok h.at_.ok b)
  have := h.at_.blk.set_ 4 (.bool b)
  unfold srCells at this ⊢
  simpa using this
theorem SIn.size (h : SIn w w0 R A c r cc) : w.heap.size + 2 ≤ w0.heap.size := by have := h.out.lt; omega
end

def SCall (R : Nat) (A : Option Addr) (c : Nat) (r' : SR) (o : OutD) (told : Bool) (w : World) (e : Ending) (w' : World) : Prop :=
  ∃ Ab kb, e = .returned (.tuple #[.agg (outCells Ab o.bytes.length kb o.n ((o.err : Nat) : Int)), .bool told]) ∧ SRAt w' R A c r' ∧ Keep (· = R) w w' ∧ Reads w' w'.heap.size 1 Ab o.bytes.length (bvs o.bytes) ∧ (0 < o.bytes.length → ∃ ad, Ab = some ad ∧ w.heap.size ≤ ad.block)
theorem SCall.drew {R : Nat} {A : Option Addr} {c : Nat} {r' : SR} {o : OutD} {told : Bool} {w w' : World} {e : Ending} (h : SCall R A c r' o told w e w') : SCall R A c r' o told w e w'.drew := by
  obtain ⟨Ab, kb, h1, h2, h3, h4, h5⟩ := h
  exact ⟨Ab, kb, h1, h2.keep ((Keep.refl (fun _ => False) _).drew) (fun _ h => h.elim), h3.drew, h4.drew, h5⟩
theorem sc_close {w w2 : World} {R : Nat} {A : Option Addr} {c : Nat} {r' : SR} {cc : Array Value} {o : OutD} {told : Bool} {e : Ending} {Ab : Option Addr} {kb : Nat} (h : SIn w w2 R A c r' cc) (hr : Reads w2 w2.heap.size 1 Ab o.bytes.length (bvs o.bytes)) (hA : 0 < o.bytes.length → ∃ ad, Ab = some ad ∧ w.heap.size + 2 ≤ ad.block)
    (he : e = .returned (.tuple #[.agg (outCells Ab o.bytes.length kb o.n ((o.err : Nat) : Int)), .bool told])) : SCall R A c r' o told w e (outW w2 (w.heap.size + 1) (.slice Ab o.bytes.length kb) o.n ((o.err : Nat) : Int)) := by
  have hk2 := outW_keep w2 (w.heap.size + 1) (.slice Ab o.bytes.length kb) o.n ((o.err : Nat) : Int)
  have hlt := h.lt
  refine ⟨Ab, kb, he, h.at_.keep hk2 (fun k e => by omega), h.keep.then hk2 (fun k e => .inr (by omega)), ⟨hr.1, fun h0 => ?_⟩, fun h0 => ?_⟩
  · obtain ⟨ad, e1, e2⟩ := hA h0
    obtain ⟨ad', f1, f2, f3⟩ := hr.2 h0
    rw [e1] at f1
    injection f1 with f1
    subst f1
    exact ⟨ad, e1, Nat.lt_of_lt_of_le f2 hk2.size, fun j u hj => (hk2.cell (p := ad.add j) (by rw [block_of_add]; exact f2) (by rw [block_of_add]; omega)).trans (f3 j u hj)⟩
  · obtain ⟨ad, e1, e2⟩ := hA h0
    exact ⟨ad, e1, by omega⟩
/-- an answer without bytes -/
theorem sc_none {w w2 : World} {R : Nat} {A : Option Addr} {c : Nat} {r' : SR} {cc : Array Value} {told : Bool} {e : Ending} (h : SIn w w2 R A c r' cc) (n : Int) (er : Nat) (he : e = .returned (.tuple #[.agg (outCells none 0 0 n ((er : Nat) : Int)), .bool told])) :
    SCall R A c r' ⟨[], n, er⟩ told w e (outW w2 (w.heap.size + 1) (.slice none 0 0) n ((er : Nat) : Int)) :=
  sc_close (o := ⟨[], n, er⟩) (Ab := none) (kb := 0) h Reads.none_ (fun h => absurd h (by simp)) he

set_option maxRecDepth 100000 in
set_option maxHeartbeats 2000000 in
theorem sc_end0 (R : Nat) (A : Option Addr) (c : Nat) (r : SR) (n : Int) (dl : UInt8) (bs : List UInt8) (Ab : Option Addr) (kb : Nat) (w : World) (h : SRAt w R A c r) (he : r.rest = []) :
    Calls Tryd.prog 31 #[.pointer (some ⟨R, 0, none⟩), callV ⟨0, n, dl, bs⟩ Ab kb] w (SCall R A c (r.read 0 0) ⟨[], 0, 1⟩ true w) := by
  obtain ⟨Ar, cr, hrr, hcr, hAr, hsl⟩ := h.rest
  have c0 : (calW w ⟨0, n, dl, bs⟩ Ab kb).cell? ⟨R, 0, none⟩ = some (.slice A r.data.length c) := (h.below (calW_below w ⟨0, n, dl, bs⟩ Ab kb)).blk.cell 0
  have c1 : (calW w ⟨0, n, dl, bs⟩ Ab kb).cell? ⟨R, 1, none⟩ = some (.int .i64 (r.pos : Nat)) := (h.below (calW_below w ⟨0, n, dl, bs⟩ Ab kb)).blk.cell 1
  have H0 := Lib.hid (And.intro (fun nq => sin_mk h ⟨0, n, dl, bs⟩ Ab kb nq) (And.intro hrr (And.intro hcr (And.intro hAr h)))); clear hrr hcr hAr h
  have hl0 : r.rest.length = 0 := by rw [he]; rfl
  rw [hl0] at hsl
  clear he hl0
  simp only [callV, calW, callCells, outCells] at H0 c0 c1 ⊢
  go_enter Tryd.func31, Tryd.ntmps31
  go_wp2_with fail
  go_quiet (fail)
  clear c0 c1 hsl
  have hS := H0.out.1 nq
  generalize ((w.alloc (.cells #[.int .i64 0, .int .i64 n, .int .u8 (dl.toNat : Int), .slice Ab bs.length kb] 34)).alloc (.cells #[.slice none 0 0, .int .i64 0, .int .i64 0] 36)).drewN nq = w0 at *
  have k0 : w0.cell? ⟨w.heap.size, 0, none⟩ = some (.int .i64 0) := hS.cal.cell 0
  have k1 : w0.cell? ⟨w.heap.size, 1, none⟩ = some (.int .i64 n) := hS.cal.cell 1
  have k2 : w0.cell? ⟨w.heap.size, 2, none⟩ = some (.int .u8 (dl.toNat : Int)) := hS.cal.cell 2
  have HS := Lib.hid hS; clear hS
  go_wp2_with fail
  refine (read41 R A c r 0 0 w0 HS.out.at_.blk (by have := HS.out.at_.room; have := HS.out.at_.ok.pos; unfold Room at *; omega)).mono ?_
  rintro e w2 ⟨rfl, hb2, hk2⟩
  have hS2 := HS.out.next hb2 hk2 rfl (SR.read_ok HS.out.at_.ok 0 0 (Nat.zero_le _) (Nat.le_refl _))
  have d0 : w2.cell? ⟨w.heap.size + 1, 0, none⟩ = some (.slice none 0 0) := hS2.out.cell 0
  have d1 : w2.cell? ⟨w.heap.size + 1, 1, none⟩ = some (.int .i64 0) := hS2.out.cell 1
  have d2 : w2.cell? ⟨w.heap.size + 1, 2, none⟩ = some (.int .i64 0) := hS2.out.cell 2
  have f0 := hS2.out.frozen 0
  have f1 := hS2.out.frozen 1
  have f2 := hS2.out.frozen 2
  have HS2 := Lib.hid hS2; clear hS2 hb2 hk2 k0 k1 k2
  go_wp2_with fail
  refine bodyPost_ret (v := .tuple #[.agg (outCells none 0 0 0 1), .bool true]) (by simp [results, Tryd.results31, go_sem, outCells, d0, d1, d2]) rfl ?_
  exact sc_none HS2.out 0 1 rfl

set_option maxRecDepth 100000 in
set_option maxHeartbeats 2000000 in
theorem sc_end1 (R : Nat) (A : Option Addr) (c : Nat) (r : SR) (n : Int) (dl : UInt8) (bs : List UInt8) (Ab : Option Addr) (kb : Nat) (w : World) (h : SRAt w R A c r) (he : r.rest = []) :
    Calls Tryd.prog 31 #[.pointer (some ⟨R, 0, none⟩), callV ⟨1, n, dl, bs⟩ Ab kb] w (SCall R A c (r.read 0 0) ⟨[], 0, 1⟩ true w) := by
  obtain ⟨Ar, cr, hrr, hcr, hAr, hsl⟩ := h.rest
  have c0 : (calW w ⟨1, n, dl, bs⟩ Ab kb).cell? ⟨R, 0, none⟩ = some (.slice A r.data.length c) := (h.below (calW_below w ⟨1, n, dl, bs⟩ Ab kb)).blk.cell 0
  have c1 : (calW w ⟨1, n, dl, bs⟩ Ab kb).cell? ⟨R, 1, none⟩ = some (.int .i64 (r.pos : Nat)) := (h.below (calW_below w ⟨1, n, dl, bs⟩ Ab kb)).blk.cell 1
  have H0 := Lib.hid (And.intro (fun nq => sin_mk h ⟨1, n, dl, bs⟩ Ab kb nq) (And.intro hrr (And.intro hcr (And.intro hAr h)))); clear hrr hcr hAr h
  have hl0 : r.rest.length = 0 := by rw [he]; rfl
  rw [hl0] at hsl
  clear he hl0
  simp only [callV, calW, callCells, outCells] at H0 c0 c1 ⊢
  go_enter Tryd.func31, Tryd.ntmps31
  go_wp2_with fail
  go_quiet (fail)
  clear c0 c1 hsl
  have hS := H0.out.1 nq
  generalize ((w.alloc (.cells #[.int .i64 1, .int .i64 n, .int .u8 (dl.toNat : Int), .slice Ab bs.length kb] 34)).alloc (.cells #[.slice none 0 0, .int .i64 0, .int .i64 0] 36)).drewN nq = w0 at *
  have k0 : w0.cell? ⟨w.heap.size, 0, none⟩ = some (.int .i64 1) := hS.cal.cell 0
  have k1 : w0.cell? ⟨w.heap.size, 1, none⟩ = some (.int .i64 n) := hS.cal.cell 1
  have k2 : w0.cell? ⟨w.heap.size, 2, none⟩ = some (.int .u8 (dl.toNat : Int)) := hS.cal.cell 2
  have HS := Lib.hid hS; clear hS
  go_wp2_with fail
  refine (read41 R A c r 0 0 w0 HS.out.at_.blk (by have := HS.out.at_.room; have := HS.out.at_.ok.pos; unfold Room at *; omega)).mono ?_
  rintro e w2 ⟨rfl, hb2, hk2⟩
  have hS2 := HS.out.next hb2 hk2 rfl (SR.read_ok HS.out.at_.ok 0 0 (Nat.zero_le _) (Nat.le_refl _))
  have d0 : w2.cell? ⟨w.heap.size + 1, 0, none⟩ = some (.slice none 0 0) := hS2.out.cell 0
  have d1 : w2.cell? ⟨w.heap.size + 1, 1, none⟩ = some (.int .i64 0) := hS2.out.cell 1
  have d2 : w2.cell? ⟨w.heap.size + 1, 2, none⟩ = some (.int .i64 0) := hS2.out.cell 2
  have f0 := hS2.out.frozen 0
  have f1 := hS2.out.frozen 1
  have f2 := hS2.out.frozen 2
  have HS2 := Lib.hid hS2; clear hS2 hb2 hk2 k0 k1 k2
  go_wp2_with fail
  refine bodyPost_ret (v := .tuple #[.agg (outCells none 0 0 0 1), .bool true]) (by simp [results, Tryd.results31, go_sem, outCells, d0, d1, d2]) rfl ?_
  exact sc_none HS2.out 0 1 rfl

set_option maxRecDepth 100000 in
set_option maxHeartbeats 2000000 in
theorem sc_byte (R : Nat) (A : Option Addr) (c : Nat) (r : SR) (n : Int) (dl : UInt8) (bs : List UInt8) (Ab : Option Addr) (kb : Nat) (w : World) (h : SRAt w R A c r) (he : r.rest ≠ []) :
    Calls Tryd.prog 31 #[.pointer (some ⟨R, 0, none⟩), callV ⟨0, n, dl, bs⟩ Ab kb] w (SCall R A c (r.read 1 0) ⟨[], ((r.rest.getD 0 0).toNat : Int), 0⟩ true w) := by
  have hpos : 0 < r.rest.length := List.length_pos_iff.2 he
  have hbe : ((r.rest.length : Int) == 0) = false := by simp; omega
  have He := Lib.hid he; clear he
  obtain ⟨Ar, cr, hrr, hcr, hAr, hsl⟩ := h.rest
  have c0 : (calW w ⟨0, n, dl, bs⟩ Ab kb).cell? ⟨R, 0, none⟩ = some (.slice A r.data.length c) := (h.below (calW_below w ⟨0, n, dl, bs⟩ Ab kb)).blk.cell 0
  have c1 : (calW w ⟨0, n, dl, bs⟩ Ab kb).cell? ⟨R, 1, none⟩ = some (.int .i64 (r.pos : Nat)) := (h.below (calW_below w ⟨0, n, dl, bs⟩ Ab kb)).blk.cell 1
  have H0 := Lib.hid (And.intro (fun nq => sin_mk h ⟨0, n, dl, bs⟩ Ab kb nq) (And.intro hrr (And.intro hcr (And.intro hAr h)))); clear hrr hcr hAr h
  simp only [callV, calW, callCells, outCells] at H0 c0 c1 ⊢
  go_enter Tryd.func31, Tryd.ntmps31
  go_wp2_with fail
  go_quiet (fail)
  clear c0 c1 hsl
  have hS := H0.out.1 nq
  generalize ((w.alloc (.cells #[.int .i64 0, .int .i64 n, .int .u8 (dl.toNat : Int), .slice Ab bs.length kb] 34)).alloc (.cells #[.slice none 0 0, .int .i64 0, .int .i64 0] 36)).drewN nq = w0 at *
  have k0 : w0.cell? ⟨w.heap.size, 0, none⟩ = some (.int .i64 0) := hS.cal.cell 0
  have k1 : w0.cell? ⟨w.heap.size, 1, none⟩ = some (.int .i64 n) := hS.cal.cell 1
  have k2 : w0.cell? ⟨w.heap.size, 2, none⟩ = some (.int .u8 (dl.toNat : Int)) := hS.cal.cell 2
  have HS := Lib.hid hS; clear hS
  go_wp2_with fail
  refine (read41 R A c r 1 0 w0 HS.out.at_.blk (by have := HS.out.at_.room; have := HS.out.at_.ok.pos; unfold Room at *; omega)).mono ?_
  rintro e w2 ⟨rfl, hb2, hk2⟩
  have hS2 := HS.out.next hb2 hk2 rfl (SR.read_ok HS.out.at_.ok 1 0 hpos (Nat.zero_le _))
  have d0 : w2.cell? ⟨w.heap.size + 1, 0, none⟩ = some (.slice none 0 0) := hS2.out.cell 0
  have d1 : w2.cell? ⟨w.heap.size + 1, 1, none⟩ = some (.int .i64 0) := hS2.out.cell 1
  have d2 : w2.cell? ⟨w.heap.size + 1, 2, none⟩ = some (.int .i64 0) := hS2.out.cell 2
  have f0 := hS2.out.frozen 0
  have f1 := hS2.out.frozen 1
  have f2 := hS2.out.frozen 2
  obtain ⟨ad, rfl, hcell⟩ := head_cell H0.out.2.1 He.out
  have hadb : ad.block < R := by
    obtain ⟨ad', e, hb, _⟩ := H0.out.2.1.2 hpos
    cases e
    exact hb
  have hlt := HS.out.lt
  have hcell2 : w2.cell? ad = some (.int .u8 (((r.rest.getD 0 0).toNat : Nat) : Int)) := ((HS.out.keep.trans hk2).cell (p := ad) (by omega) (by omega)).trans hcell
  have h256 := getD_lt r.rest 0
  have HS2 := Lib.hid hS2; clear hS2 hb2 hk2 k0 k1 k2 hcell
  generalize (r.rest.getD 0 0).toNat = x at *
  go_wp2_with fail
  refine bodyPost_ret (v := .tuple #[.agg (outCells none 0 0 (x : Int) 0), .bool true]) (by simp [results, Tryd.results31, go_sem, outCells, d0, d1, d2]) rfl ?_
  exact sc_none HS2.out (x : Int) 0 rfl

set_option maxRecDepth 100000 in
set_option maxHeartbeats 2000000 in
theorem sc_rune (R : Nat) (A : Option Addr) (c : Nat) (r : SR) (n : Int) (dl : UInt8) (bs : List UInt8) (Ab : Option Addr) (kb : Nat) (w : World) (h : SRAt w R A c r) (he : r.rest ≠ []) :
    Calls Tryd.prog 31 #[.pointer (some ⟨R, 0, none⟩), callV ⟨1, n, dl, bs⟩ Ab kb] w (SCall R A c (r.read (decM r.rest).2 (decM r.rest).2) ⟨List.replicate (decM r.rest).2 0, ((decM r.rest).1 : Int), 0⟩ true w) := by
  have hpos : 0 < r.rest.length := List.length_pos_iff.2 he
  have hbe : ((r.rest.length : Int) == 0) = false := by simp; omega
  have hd4 := dec_le he
  have hrn := dec_rune r.rest
  have He := Lib.hid he; clear he
  obtain ⟨Ar, cr, hrr, hcr, hAr, hsl⟩ := h.rest
  have c0 : (calW w ⟨1, n, dl, bs⟩ Ab kb).cell? ⟨R, 0, none⟩ = some (.slice A r.data.length c) := (h.below (calW_below w ⟨1, n, dl, bs⟩ Ab kb)).blk.cell 0
  have c1 : (calW w ⟨1, n, dl, bs⟩ Ab kb).cell? ⟨R, 1, none⟩ = some (.int .i64 (r.pos : Nat)) := (h.below (calW_below w ⟨1, n, dl, bs⟩ Ab kb)).blk.cell 1
  have H0 := Lib.hid (And.intro (fun nq => sin_mk h ⟨1, n, dl, bs⟩ Ab kb nq) (And.intro hrr (And.intro hcr (And.intro hAr h)))); clear hrr hcr hAr h
  simp only [callV, calW, callCells, outCells] at H0 c0 c1 ⊢
  go_enter Tryd.func31, Tryd.ntmps31
  go_wp2_with fail
  go_quiet (fail)
  clear c0 c1 hsl
  have hS := H0.out.1 nq
  generalize ((w.alloc (.cells #[.int .i64 1, .int .i64 n, .int .u8 (dl.toNat : Int), .slice Ab bs.length kb] 34)).alloc (.cells #[.slice none 0 0, .int .i64 0, .int .i64 0] 36)).drewN nq = w0 at *
  have k0 : w0.cell? ⟨w.heap.size, 0, none⟩ = some (.int .i64 1) := hS.cal.cell 0
  have k1 : w0.cell? ⟨w.heap.size, 1, none⟩ = some (.int .i64 n) := hS.cal.cell 1
  have k2 : w0.cell? ⟨w.heap.size, 2, none⟩ = some (.int .u8 (dl.toNat : Int)) := hS.cal.cell 2
  have HS := Lib.hid hS; clear hS
  have hrd0 : Reads w0 R 1 Ar r.rest.length (bvs r.rest) := H0.out.2.1.below (HS.out.keep.below (fun k e => by omega) (Nat.le_of_lt HS.out.lt))
  have HF := Lib.hid (first40 Ar cr r.rest R w0 hrd0 H0.out.2.2.1 He.out); clear hrd0
  unfold First40 at HF
  have hread := SR.read_ok HS.out.at_.ok (decM r.rest).2 (decM r.rest).2 hd4.1 (Nat.le_refl _)
  have Hread := Lib.hid hread; clear hread
  have hpr : r.pos + (decM r.rest).2 ≤ 2000000000 := by
    have h1 := HS.out.at_.room
    have h2 := HS.out.at_.ok.pos
    unfold Room at h1
    omega
  obtain ⟨⟨rn, sz⟩, hx⟩ : ∃ x, x = decM r.rest := ⟨_, rfl⟩
  rw [← hx] at HF Hread hd4 hrn hpr
  simp only at HF Hread hd4 hrn hpr
  have Hx := Lib.hid hx.symm; clear hx
  have hmk := make_bytesR sz (by omega)
  go_wp2_with fail
  refine HF.out.mono ?_
  rintro e w1 ⟨rfl, rfl⟩
  go_wp2_with fail
  refine (read41 R A c r sz sz w0 HS.out.at_.blk hpr).mono ?_
  rintro e w2 ⟨rfl, hb2, hk2⟩
  have hS2 := HS.out.next hb2 hk2 rfl Hread.out
  have hbl2 : Below w2.heap.size w2 (w2.alloc (.cells (bvs (zeros sz)).toArray 5)) := (Below.refl _ _).alloc (Nat.le_refl _) _
  have hS3 := hS2.below hbl2
  have d0 : (w2.alloc (.cells (bvs (zeros sz)).toArray 5)).cell? ⟨w.heap.size + 1, 0, none⟩ = some (.slice none 0 0) := hS3.out.cell 0
  have d1 : (w2.alloc (.cells (bvs (zeros sz)).toArray 5)).cell? ⟨w.heap.size + 1, 1, none⟩ = some (.int .i64 0) := hS3.out.cell 1
  have d2 : (w2.alloc (.cells (bvs (zeros sz)).toArray 5)).cell? ⟨w.heap.size + 1, 2, none⟩ = some (.int .i64 0) := hS3.out.cell 2
  have f0 := hS3.out.frozen 0
  have f1 := hS3.out.frozen 1
  have f2 := hS3.out.frozen 2
  have HS2 := Lib.hid (And.intro hS2 hS3); clear hS2 hS3 hb2 hk2 k0 k1 k2 hbl2
  go_wp2_with fail
  refine bodyPost_ret (v := .tuple #[.agg (outCells (some ⟨w2.heap.size, 0, none⟩) sz sz (rn : Int) 0), .bool true]) (by simp [results, Tryd.results31, go_sem, outCells, d0, d1, d2]) rfl ?_
  have hbz : Blk (w2.alloc (.cells (bvs (zeros sz)).toArray 5)) w2.heap.size 5 (bvs (zeros sz)).toArray := Blk.new w2 5 _
  have hrd : Reads (w2.alloc (.cells (bvs (zeros sz)).toArray 5)) (w2.alloc (.cells (bvs (zeros sz)).toArray 5)).heap.size 1 (some ⟨w2.heap.size, 0, none⟩) (List.replicate sz (0 : UInt8)).length (bvs (List.replicate sz 0)) := by
    have := Reads.of_blk (A := some ⟨w2.heap.size, 0, none⟩) hbz 0 sz (by rw [bvs_length, zeros_length]; omega) (fun _ => rfl)
    rw [List.drop_zero, List.take_of_length_le (by rw [bvs_length, zeros_length]; exact Nat.le_refl _)] at this
    rw [List.length_replicate]
    exact this.more (by have := hbz.lt; omega)
  have hcl := sc_close (o := ⟨List.replicate sz 0, (rn : Int), 0⟩) (Ab := some ⟨w2.heap.size, 0, none⟩) (kb := sz) (told := true) HS2.out.2 hrd (fun _ => ⟨_, rfl, HS2.out.1.size⟩) rfl
  simp only [List.length_replicate] at hcl
  rw [Hx.out]
  exact hcl

set_option maxRecDepth 100000 in
set_option maxHeartbeats 2000000 in
theorem sc_doubt2 (R : Nat) (A : Option Addr) (c : Nat) (r : SR) (n : Int) (dl : UInt8) (bs : List UInt8) (Ab : Option Addr) (kb : Nat) (w : World) (h : SRAt w R A c r) (hd : r.doubt = true) :
    Calls Tryd.prog 31 #[.pointer (some ⟨R, 0, none⟩), callV ⟨2, n, dl, bs⟩ Ab kb] w (SCall R A c r noOut false w) := by
  obtain ⟨Ar, cr, hrr, hcr, hAr, hsl⟩ := h.rest
  have c0 : (calW w ⟨2, n, dl, bs⟩ Ab kb).cell? ⟨R, 0, none⟩ = some (.slice A r.data.length c) := (h.below (calW_below w ⟨2, n, dl, bs⟩ Ab kb)).blk.cell 0
  have c1 : (calW w ⟨2, n, dl, bs⟩ Ab kb).cell? ⟨R, 1, none⟩ = some (.int .i64 (r.pos : Nat)) := (h.below (calW_below w ⟨2, n, dl, bs⟩ Ab kb)).blk.cell 1
  have H0 := Lib.hid (And.intro (fun nq => sin_mk h ⟨2, n, dl, bs⟩ Ab kb nq) (And.intro hrr (And.intro hcr (And.intro hAr h)))); clear hrr hcr hAr h
  simp only [callV, calW, callCells, outCells] at H0 c0 c1 ⊢
  go_enter Tryd.func31, Tryd.ntmps31
  go_wp2_with fail
  go_quiet (fail)
  clear c0 c1 hsl
  have hS := H0.out.1 nq
  generalize ((w.alloc (.cells #[.int .i64 2, .int .i64 n, .int .u8 (dl.toNat : Int), .slice Ab bs.length kb] 34)).alloc (.cells #[.slice none 0 0, .int .i64 0, .int .i64 0] 36)).drewN nq = w0 at *
  have k0 : w0.cell? ⟨w.heap.size, 0, none⟩ = some (.int .i64 2) := hS.cal.cell 0
  have k1 : w0.cell? ⟨w.heap.size, 1, none⟩ = some (.int .i64 n) := hS.cal.cell 1
  have k2 : w0.cell? ⟨w.heap.size, 2, none⟩ = some (.int .u8 (dl.toNat : Int)) := hS.cal.cell 2
  have r2 : w0.cell? ⟨R, 2, none⟩ = some (.bool r.bytes) := hS.at_.blk.cell 2
  have r3 : w0.cell? ⟨R, 3, none⟩ = some (.int .i64 (r.size : Nat)) := hS.at_.blk.cell 3
  have r4 : w0.cell? ⟨R, 4, none⟩ = some (.bool r.doubt) := hS.at_.blk.cell 4
  have g4 := hS.at_.blk.frozen 4
  rw [hd] at r4
  have d0 : w0.cell? ⟨w.heap.size + 1, 0, none⟩ = some (.slice none 0 0) := hS.out.cell 0
  have d1 : w0.cell? ⟨w.heap.size + 1, 1, none⟩ = some (.int .i64 0) := hS.out.cell 1
  have d2 : w0.cell? ⟨w.heap.size + 1, 2, none⟩ = some (.int .i64 0) := hS.out.cell 2
  have f0 := hS.out.frozen 0
  have f1 := hS.out.frozen 1
  have f2 := hS.out.frozen 2
  have HS := Lib.hid hS; clear hS hd
  go_wp2_with fail
  refine bodyPost_ret (v := .tuple #[.agg (outCells none 0 0 0 0), .bool false]) (by simp [results, Tryd.results31, go_sem, outCells, d0, d1, d2]) rfl ?_
  exact sc_none HS.out 0 0 rfl

set_option maxRecDepth 100000 in
set_option maxHeartbeats 2000000 in
theorem sc_doubt3 (R : Nat) (A : Option Addr) (c : Nat) (r : SR) (n : Int) (dl : UInt8) (bs : List UInt8) (Ab : Option Addr) (kb : Nat) (w : World) (h : SRAt w R A c r) (hd : r.doubt = true) :
    Calls Tryd.prog 31 #[.pointer (some ⟨R, 0, none⟩), callV ⟨3, n, dl, bs⟩ Ab kb] w (SCall R A c r noOut false w) := by
  obtain ⟨Ar, cr, hrr, hcr, hAr, hsl⟩ := h.rest
  have c0 : (calW w ⟨3, n, dl, bs⟩ Ab kb).cell? ⟨R, 0, none⟩ = some (.slice A r.data.length c) := (h.below (calW_below w ⟨3, n, dl, bs⟩ Ab kb)).blk.cell 0
  have c1 : (calW w ⟨3, n, dl, bs⟩ Ab kb).cell? ⟨R, 1, none⟩ = some (.int .i64 (r.pos : Nat)) := (h.below (calW_below w ⟨3, n, dl, bs⟩ Ab kb)).blk.cell 1
  have H0 := Lib.hid (And.intro (fun nq => sin_mk h ⟨3, n, dl, bs⟩ Ab kb nq) (And.intro hrr (And.intro hcr (And.intro hAr h)))); clear hrr hcr hAr h
  simp only [callV, calW, callCells, outCells] at H0 c0 c1 ⊢
  go_enter Tryd.func31, Tryd.ntmps31
  go_wp2_with fail
  go_quiet (fail)
  clear c0 c1 hsl
  have hS := H0.out.1 nq
  generalize ((w.alloc (.cells #[.int .i64 3, .int .i64 n, .int .u8 (dl.toNat : Int), .slice Ab bs.length kb] 34)).alloc (.cells #[.slice none 0 0, .int .i64 0, .int .i64 0] 36)).drewN nq = w0 at *
  have k0 : w0.cell? ⟨w.heap.size, 0, none⟩ = some (.int .i64 3) := hS.cal.cell 0
  have k1 : w0.cell? ⟨w.heap.size, 1, none⟩ = some (.int .i64 n) := hS.cal.cell 1
  have k2 : w0.cell? ⟨w.heap.size, 2, none⟩ = some (.int .u8 (dl.toNat : Int)) := hS.cal.cell 2
  have r2 : w0.cell? ⟨R, 2, none⟩ = some (.bool r.bytes) := hS.at_.blk.cell 2
  have r3 : w0.cell? ⟨R, 3, none⟩ = some (.int .i64 (r.size : Nat)) := hS.at_.blk.cell 3
  have r4 : w0.cell? ⟨R, 4, none⟩ = some (.bool r.doubt) := hS.at_.blk.cell 4
  have g4 := hS.at_.blk.frozen 4
  rw [hd] at r4
  have d0 : w0.cell? ⟨w.heap.size + 1, 0, none⟩ = some (.slice none 0 0) := hS.out.cell 0
  have d1 : w0.cell? ⟨w.heap.size + 1, 1, none⟩ = some (.int .i64 0) := hS.out.cell 1
  have d2 : w0.cell? ⟨w.heap.size + 1, 2, none⟩ = some (.int .i64 0) := hS.out.cell 2
  have f0 := hS.out.frozen 0
  have f1 := hS.out.frozen 1
  have f2 := hS.out.frozen 2
  have HS := Lib.hid hS; clear hS hd
  go_wp2_with fail
  refine bodyPost_ret (v := .tuple #[.agg (outCells none 0 0 0 0), .bool false]) (by simp [results, Tryd.results31, go_sem, outCells, d0, d1, d2]) rfl ?_
  exact sc_none HS.out 0 0 rfl

set_option maxRecDepth 100000 in
set_option maxHeartbeats 2000000 in
theorem sc_nobyte (R : Nat) (A : Option Addr) (c : Nat) (r : SR) (n : Int) (dl : UInt8) (bs : List UInt8) (Ab : Option Addr) (kb : Nat) (w : World) (h : SRAt w R A c r) (hd : r.doubt = false) (hb : r.bytes = false) :
    Calls Tryd.prog 31 #[.pointer (some ⟨R, 0, none⟩), callV ⟨2, n, dl, bs⟩ Ab kb] w (SCall R A c r ⟨[], 0, 2⟩ true w) := by
  obtain ⟨Ar, cr, hrr, hcr, hAr, hsl⟩ := h.rest
  have c0 : (calW w ⟨2, n, dl, bs⟩ Ab kb).cell? ⟨R, 0, none⟩ = some (.slice A r.data.length c) := (h.below (calW_below w ⟨2, n, dl, bs⟩ Ab kb)).blk.cell 0
  have c1 : (calW w ⟨2, n, dl, bs⟩ Ab kb).cell? ⟨R, 1, none⟩ = some (.int .i64 (r.pos : Nat)) := (h.below (calW_below w ⟨2, n, dl, bs⟩ Ab kb)).blk.cell 1
  have H0 := Lib.hid (And.intro (fun nq => sin_mk h ⟨2, n, dl, bs⟩ Ab kb nq) (And.intro hrr (And.intro hcr (And.intro hAr h)))); clear hrr hcr hAr h
  simp only [callV, calW, callCells, outCells] at H0 c0 c1 ⊢
  go_enter Tryd.func31, Tryd.ntmps31
  go_wp2_with fail
  go_quiet (fail)
  clear c0 c1 hsl
  have hS := H0.out.1 nq
  generalize ((w.alloc (.cells #[.int .i64 2, .int .i64 n, .int .u8 (dl.toNat : Int), .slice Ab bs.length kb] 34)).alloc (.cells #[.slice none 0 0, .int .i64 0, .int .i64 0] 36)).drewN nq = w0 at *
  have k0 : w0.cell? ⟨w.heap.size, 0, none⟩ = some (.int .i64 2) := hS.cal.cell 0
  have k1 : w0.cell? ⟨w.heap.size, 1, none⟩ = some (.int .i64 n) := hS.cal.cell 1
  have k2 : w0.cell? ⟨w.heap.size, 2, none⟩ = some (.int .u8 (dl.toNat : Int)) := hS.cal.cell 2
  have r2 : w0.cell? ⟨R, 2, none⟩ = some (.bool r.bytes) := hS.at_.blk.cell 2
  have r3 : w0.cell? ⟨R, 3, none⟩ = some (.int .i64 (r.size : Nat)) := hS.at_.blk.cell 3
  have r4 : w0.cell? ⟨R, 4, none⟩ = some (.bool r.doubt) := hS.at_.blk.cell 4
  have g4 := hS.at_.blk.frozen 4
  rw [hd] at r4
  rw [hb] at r2
  have d0 : w0.cell? ⟨w.heap.size + 1, 0, none⟩ = some (.slice none 0 0) := hS.out.cell 0
  have d1 : w0.cell? ⟨w.heap.size + 1, 1, none⟩ = some (.int .i64 0) := hS.out.cell 1
  have d2 : w0.cell? ⟨w.heap.size + 1, 2, none⟩ = some (.int .i64 0) := hS.out.cell 2
  have f0 := hS.out.frozen 0
  have f1 := hS.out.frozen 1
  have f2 := hS.out.frozen 2
  have HS := Lib.hid hS; clear hS hd hb
  go_wp2_with fail
  refine bodyPost_ret (v := .tuple #[.agg (outCells none 0 0 0 2), .bool true]) (by simp [results, Tryd.results31, go_sem, outCells, d0, d1, d2]) rfl ?_
  exact sc_none HS.out 0 2 rfl

set_option maxRecDepth 100000 in
set_option maxHeartbeats 2000000 in
theorem sc_unbyte (R : Nat) (A : Option Addr) (c : Nat) (r : SR) (n : Int) (dl : UInt8) (bs : List UInt8) (Ab : Option Addr) (kb : Nat) (w : World) (h : SRAt w R A c r) (hd : r.doubt = false) (hb : r.bytes = true) :
    Calls Tryd.prog 31 #[.pointer (some ⟨R, 0, none⟩), callV ⟨2, n, dl, bs⟩ Ab kb] w (SCall R A c (r.back 1) noOut true w) := by
  obtain ⟨Ar, cr, hrr, hcr, hAr, hsl⟩ := h.rest
  have c0 : (calW w ⟨2, n, dl, bs⟩ Ab kb).cell? ⟨R, 0, none⟩ = some (.slice A r.data.length c) := (h.below (calW_below w ⟨2, n, dl, bs⟩ Ab kb)).blk.cell 0
  have c1 : (calW w ⟨2, n, dl, bs⟩ Ab kb).cell? ⟨R, 1, none⟩ = some (.int .i64 (r.pos : Nat)) := (h.below (calW_below w ⟨2, n, dl, bs⟩ Ab kb)).blk.cell 1
  have H0 := Lib.hid (And.intro (fun nq => sin_mk h ⟨2, n, dl, bs⟩ Ab kb nq) (And.intro hrr (And.intro hcr (And.intro hAr h)))); clear hrr hcr hAr h
  simp only [callV, calW, callCells, outCells] at H0 c0 c1 ⊢
  go_enter Tryd.func31, Tryd.ntmps31
  go_wp2_with fail
  go_quiet (fail)
  clear c0 c1 hsl
  have hS := H0.out.1 nq
  generalize ((w.alloc (.cells #[.int .i64 2, .int .i64 n, .int .u8 (dl.toNat : Int), .slice Ab bs.length kb] 34)).alloc (.cells #[.slice none 0 0, .int .i64 0, .int .i64 0] 36)).drewN nq = w0 at *
  have k0 : w0.cell? ⟨w.heap.size, 0, none⟩ = some (.int .i64 2) := hS.cal.cell 0
  have k1 : w0.cell? ⟨w.heap.size, 1, none⟩ = some (.int .i64 n) := hS.cal.cell 1
  have k2 : w0.cell? ⟨w.heap.size, 2, none⟩ = some (.int .u8 (dl.toNat : Int)) := hS.cal.cell 2
  have r2 : w0.cell? ⟨R, 2, none⟩ = some (.bool r.bytes) := hS.at_.blk.cell 2
  have r3 : w0.cell? ⟨R, 3, none⟩ = some (.int .i64 (r.size : Nat)) := hS.at_.blk.cell 3
  have r4 : w0.cell? ⟨R, 4, none⟩ = some (.bool r.doubt) := hS.at_.blk.cell 4
  have g4 := hS.at_.blk.frozen 4
  rw [hd] at r4
  rw [hb] at r2
  have hp1 := hS.at_.ok.bytes hb
  clear hd hb
  have HS := Lib.hid hS; clear hS
  go_wp2_with fail
  refine (unread42 R A c r 1 (r.pos - 1) w0 HS.out.at_.blk (by omega) (by have := HS.out.at_.room; have := HS.out.at_.ok.pos; unfold Room at *; omega) (by have := HS.out.at_.room; have := HS.out.at_.ok.pos; unfold Room at *; omega)).mono ?_
  rintro e w2 ⟨rfl, hb2, hk2⟩
  have hS2 : SIn w w2 R A c (r.back 1) _ := HS.out.next hb2 hk2 rfl (SR.back_ok HS.out.at_.ok 1)
  have d0 : w2.cell? ⟨w.heap.size + 1, 0, none⟩ = some (.slice none 0 0) := hS2.out.cell 0
  have d1 : w2.cell? ⟨w.heap.size + 1, 1, none⟩ = some (.int .i64 0) := hS2.out.cell 1
  have d2 : w2.cell? ⟨w.heap.size + 1, 2, none⟩ = some (.int .i64 0) := hS2.out.cell 2
  have f0 := hS2.out.frozen 0
  have f1 := hS2.out.frozen 1
  have f2 := hS2.out.frozen 2
  have HS2 := Lib.hid hS2; clear hS2 hb2 hk2 k0 k1 k2 r2 r3 r4
  go_wp2_with fail
  refine bodyPost_ret (v := .tuple #[.agg (outCells none 0 0 0 0), .bool true]) (by simp [results, Tryd.results31, go_sem, outCells, d0, d1, d2]) rfl ?_
  exact sc_none HS2.out 0 0 rfl

set_option maxRecDepth 100000 in
set_option maxHeartbeats 2000000 in
theorem sc_norune (R : Nat) (A : Option Addr) (c : Nat) (r : SR) (n : Int) (dl : UInt8) (bs : List UInt8) (Ab : Option Addr) (kb : Nat) (w : World) (h : SRAt w R A c r) (hd : r.doubt = false) (hs : r.size = 0) :
    Calls Tryd.prog 31 #[.pointer (some ⟨R, 0, none⟩), callV ⟨3, n, dl, bs⟩ Ab kb] w (SCall R A c { r with doubt := r.bytes } ⟨[], 0, 3⟩ true w) := by
  obtain ⟨Ar, cr, hrr, hcr, hAr, hsl⟩ := h.rest
  have c0 : (calW w ⟨3, n, dl, bs⟩ Ab kb).cell? ⟨R, 0, none⟩ = some (.slice A r.data.length c) := (h.below (calW_below w ⟨3, n, dl, bs⟩ Ab kb)).blk.cell 0
  have c1 : (calW w ⟨3, n, dl, bs⟩ Ab kb).cell? ⟨R, 1, none⟩ = some (.int .i64 (r.pos : Nat)) := (h.below (calW_below w ⟨3, n, dl, bs⟩ Ab kb)).blk.cell 1
  have H0 := Lib.hid (And.intro (fun nq => sin_mk h ⟨3, n, dl, bs⟩ Ab kb nq) (And.intro hrr (And.intro hcr (And.intro hAr h)))); clear hrr hcr hAr h
  simp only [callV, calW, callCells, outCells] at H0 c0 c1 ⊢
  go_enter Tryd.func31, Tryd.ntmps31
  go_wp2_with fail
  go_quiet (fail)
  clear c0 c1 hsl
  have hS := H0.out.1 nq
  generalize ((w.alloc (.cells #[.int .i64 3, .int .i64 n, .int .u8 (dl.toNat : Int), .slice Ab bs.length kb] 34)).alloc (.cells #[.slice none 0 0, .int .i64 0, .int .i64 0] 36)).drewN nq = w0 at *
  have k0 : w0.cell? ⟨w.heap.size, 0, none⟩ = some (.int .i64 3) := hS.cal.cell 0
  have k1 : w0.cell? ⟨w.heap.size, 1, none⟩ = some (.int .i64 n) := hS.cal.cell 1
  have k2 : w0.cell? ⟨w.heap.size, 2, none⟩ = some (.int .u8 (dl.toNat : Int)) := hS.cal.cell 2
  have r2 : w0.cell? ⟨R, 2, none⟩ = some (.bool r.bytes) := hS.at_.blk.cell 2
  have r3 : w0.cell? ⟨R, 3, none⟩ = some (.int .i64 (r.size : Nat)) := hS.at_.blk.cell 3
  have r4 : w0.cell? ⟨R, 4, none⟩ = some (.bool r.doubt) := hS.at_.blk.cell 4
  have g4 := hS.at_.blk.frozen 4
  rw [hd] at r4
  rw [hs] at r3
  have hSd := hS.setD r.bytes
  have d0 : w0.cell? ⟨w.heap.size + 1, 0, none⟩ = some (.slice none 0 0) := hS.out.cell 0
  have d1 : w0.cell? ⟨w.heap.size + 1, 1, none⟩ = some (.int .i64 0) := hS.out.cell 1
  have d2 : w0.cell? ⟨w.heap.size + 1, 2, none⟩ = some (.int .i64 0) := hS.out.cell 2
  have f0 := hS.out.frozen 0
  have f1 := hS.out.frozen 1
  have f2 := hS.out.frozen 2
  have HS := Lib.hid hSd; clear hS hd hs hSd
  go_wp2_with fail
  refine bodyPost_ret (v := .tuple #[.agg (outCells none 0 0 0 3), .bool true]) (by simp [results, Tryd.results31, go_sem, outCells, d0, d1, d2]) rfl ?_
  exact sc_none HS.out 0 3 rfl

set_option maxRecDepth 100000 in
set_option maxHeartbeats 2000000 in
theorem sc_unrune (R : Nat) (A : Option Addr) (c : Nat) (r : SR) (n : Int) (dl : UInt8) (bs : List UInt8) (Ab : Option Addr) (kb : Nat) (w : World) (h : SRAt w R A c r) (hd : r.doubt = false) (hs : r.size ≠ 0) :
    Calls Tryd.prog 31 #[.pointer (some ⟨R, 0, none⟩), callV ⟨3, n, dl, bs⟩ Ab kb] w (SCall R A c (r.back r.size) noOut true w) := by
  have hsb : ((r.size : Int) == 0) = false := by simp; omega
  obtain ⟨Ar, cr, hrr, hcr, hAr, hsl⟩ := h.rest
  have c0 : (calW w ⟨3, n, dl, bs⟩ Ab kb).cell? ⟨R, 0, none⟩ = some (.slice A r.data.length c) := (h.below (calW_below w ⟨3, n, dl, bs⟩ Ab kb)).blk.cell 0
  have c1 : (calW w ⟨3, n, dl, bs⟩ Ab kb).cell? ⟨R, 1, none⟩ = some (.int .i64 (r.pos : Nat)) := (h.below (calW_below w ⟨3, n, dl, bs⟩ Ab kb)).blk.cell 1
  have H0 := Lib.hid (And.intro (fun nq => sin_mk h ⟨3, n, dl, bs⟩ Ab kb nq) (And.intro hrr (And.intro hcr (And.intro hAr h)))); clear hrr hcr hAr h
  simp only [callV, calW, callCells, outCells] at H0 c0 c1 ⊢
  go_enter Tryd.func31, Tryd.ntmps31
  go_wp2_with fail
  go_quiet (fail)
  clear c0 c1 hsl
  have hS := H0.out.1 nq
  generalize ((w.alloc (.cells #[.int .i64 3, .int .i64 n, .int .u8 (dl.toNat : Int), .slice Ab bs.length kb] 34)).alloc (.cells #[.slice none 0 0, .int .i64 0, .int .i64 0] 36)).drewN nq = w0 at *
  have k0 : w0.cell? ⟨w.heap.size, 0, none⟩ = some (.int .i64 3) := hS.cal.cell 0
  have k1 : w0.cell? ⟨w.heap.size, 1, none⟩ = some (.int .i64 n) := hS.cal.cell 1
  have k2 : w0.cell? ⟨w.heap.size, 2, none⟩ = some (.int .u8 (dl.toNat : Int)) := hS.cal.cell 2
  have r2 : w0.cell? ⟨R, 2, none⟩ = some (.bool r.bytes) := hS.at_.blk.cell 2
  have r3 : w0.cell? ⟨R, 3, none⟩ = some (.int .i64 (r.size : Nat)) := hS.at_.blk.cell 3
  have r4 : w0.cell? ⟨R, 4, none⟩ = some (.bool r.doubt) := hS.at_.blk.cell 4
  have g4 := hS.at_.blk.frozen 4
  rw [hd] at r4
  have hp1 := hS.at_.ok.size
  clear hd hs
  have HS := Lib.hid hS; clear hS
  go_wp2_with fail
  refine (unread42 R A c r (r.size : Int) (r.pos - r.size) w0 HS.out.at_.blk (by omega) (by have := HS.out.at_.room; have := HS.out.at_.ok.pos; unfold Room at *; omega) (by have := HS.out.at_.room; have := HS.out.at_.ok.pos; unfold Room at *; omega)).mono ?_
  rintro e w2 ⟨rfl, hb2, hk2⟩
  have hS2 : SIn w w2 R A c (r.back r.size) _ := HS.out.next hb2 hk2 rfl (SR.back_ok HS.out.at_.ok r.size)
  have d0 : w2.cell? ⟨w.heap.size + 1, 0, none⟩ = some (.slice none 0 0) := hS2.out.cell 0
  have d1 : w2.cell? ⟨w.heap.size + 1, 1, none⟩ = some (.int .i64 0) := hS2.out.cell 1
  have d2 : w2.cell? ⟨w.heap.size + 1, 2, none⟩ = some (.int .i64 0) := hS2.out.cell 2
  have f0 := hS2.out.frozen 0
  have f1 := hS2.out.frozen 1
  have f2 := hS2.out.frozen 2
  have HS2 := Lib.hid hS2; clear hS2 hb2 hk2 k0 k1 k2 r2 r3 r4
  go_wp2_with fail
  refine bodyPost_ret (v := .tuple #[.agg (outCells none 0 0 0 0), .bool true]) (by simp [results, Tryd.results31, go_sem, outCells, d0, d1, d2]) rfl ?_
  exact sc_none HS2.out 0 0 rfl

set_option maxRecDepth 100000 in
set_option maxHeartbeats 2000000 in
theorem sc_neg4 (R : Nat) (A : Option Addr) (c : Nat) (r : SR) (n : Int) (dl : UInt8) (bs : List UInt8) (Ab : Option Addr) (kb : Nat) (w : World) (h : SRAt w R A c r) (hn : n < 0) :
    Calls Tryd.prog 31 #[.pointer (some ⟨R, 0, none⟩), callV ⟨4, n, dl, bs⟩ Ab kb] w (SCall R A c { r with doubt := r.doubt || r.bytes } ⟨[], 0, 4⟩ true w) := by
  obtain ⟨Ar, cr, hrr, hcr, hAr, hsl⟩ := h.rest
  have c0 : (calW w ⟨4, n, dl, bs⟩ Ab kb).cell? ⟨R, 0, none⟩ = some (.slice A r.data.length c) := (h.below (calW_below w ⟨4, n, dl, bs⟩ Ab kb)).blk.cell 0
  have c1 : (calW w ⟨4, n, dl, bs⟩ Ab kb).cell? ⟨R, 1, none⟩ = some (.int .i64 (r.pos : Nat)) := (h.below (calW_below w ⟨4, n, dl, bs⟩ Ab kb)).blk.cell 1
  have H0 := Lib.hid (And.intro (fun nq => sin_mk h ⟨4, n, dl, bs⟩ Ab kb nq) (And.intro hrr (And.intro hcr (And.intro hAr h)))); clear hrr hcr hAr h
  simp only [callV, calW, callCells, outCells] at H0 c0 c1 ⊢
  go_enter Tryd.func31, Tryd.ntmps31
  go_wp2_with fail
  go_quiet (fail)
  clear c0 c1 hsl
  have hS := H0.out.1 nq
  generalize ((w.alloc (.cells #[.int .i64 4, .int .i64 n, .int .u8 (dl.toNat : Int), .slice Ab bs.length kb] 34)).alloc (.cells #[.slice none 0 0, .int .i64 0, .int .i64 0] 36)).drewN nq = w0 at *
  have k0 : w0.cell? ⟨w.heap.size, 0, none⟩ = some (.int .i64 4) := hS.cal.cell 0
  have k1 : w0.cell? ⟨w.heap.size, 1, none⟩ = some (.int .i64 n) := hS.cal.cell 1
  have k2 : w0.cell? ⟨w.heap.size, 2, none⟩ = some (.int .u8 (dl.toNat : Int)) := hS.cal.cell 2
  have r2 : w0.cell? ⟨R, 2, none⟩ = some (.bool r.bytes) := hS.at_.blk.cell 2
  have r3 : w0.cell? ⟨R, 3, none⟩ = some (.int .i64 (r.size : Nat)) := hS.at_.blk.cell 3
  have r4 : w0.cell? ⟨R, 4, none⟩ = some (.bool r.doubt) := hS.at_.blk.cell 4
  have g4 := hS.at_.blk.frozen 4
  have d0 : w0.cell? ⟨w.heap.size + 1, 0, none⟩ = some (.slice none 0 0) := hS.out.cell 0
  have d1 : w0.cell? ⟨w.heap.size + 1, 1, none⟩ = some (.int .i64 0) := hS.out.cell 1
  have d2 : w0.cell? ⟨w.heap.size + 1, 2, none⟩ = some (.int .i64 0) := hS.out.cell 2
  have f0 := hS.out.frozen 0
  have f1 := hS.out.frozen 1
  have f2 := hS.out.frozen 2
  rcases hdd : r.doubt with _ | _
  · rw [hdd] at r4
    have hSd := hS.setD (false || r.bytes)
    have HS := Lib.hid hSd
    have Hdd := Lib.hid hdd; clear hS hdd hSd
    rw [Bool.false_or] at HS
    go_wp2_with fail
    refine bodyPost_ret (v := .tuple #[.agg (outCells none 0 0 0 4), .bool true]) (by simp [results, Tryd.results31, go_sem, outCells, d0, d1, d2]) rfl ?_
    rw [Hdd.out]
    exact sc_none HS.out 0 4 rfl
  · rw [hdd] at r4
    have hSd := hS.setD (true || r.bytes)
    have HS := Lib.hid hSd
    have Hdd := Lib.hid hdd; clear hS hdd hSd
    rw [Bool.true_or] at HS
    go_wp2_with fail
    refine bodyPost_ret (v := .tuple #[.agg (outCells none 0 0 0 4), .bool true]) (by simp [results, Tryd.results31, go_sem, outCells, d0, d1, d2]) rfl ?_
    rw [Hdd.out]
    exact sc_none HS.out 0 4 rfl

set_option maxRecDepth 100000 in
set_option maxHeartbeats 2000000 in
theorem sc_neg5 (R : Nat) (A : Option Addr) (c : Nat) (r : SR) (n : Int) (dl : UInt8) (bs : List UInt8) (Ab : Option Addr) (kb : Nat) (w : World) (h : SRAt w R A c r) (hn : n < 0) :
    Calls Tryd.prog 31 #[.pointer (some ⟨R, 0, none⟩), callV ⟨5, n, dl, bs⟩ Ab kb] w (SCall R A c { r with doubt := r.doubt || r.bytes } ⟨[], 0, 4⟩ true w) := by
  obtain ⟨Ar, cr, hrr, hcr, hAr, hsl⟩ := h.rest
  have c0 : (calW w ⟨5, n, dl, bs⟩ Ab kb).cell? ⟨R, 0, none⟩ = some (.slice A r.data.length c) := (h.below (calW_below w ⟨5, n, dl, bs⟩ Ab kb)).blk.cell 0
  have c1 : (calW w ⟨5, n, dl, bs⟩ Ab kb).cell? ⟨R, 1, none⟩ = some (.int .i64 (r.pos : Nat)) := (h.below (calW_below w ⟨5, n, dl, bs⟩ Ab kb)).blk.cell 1
  have H0 := Lib.hid (And.intro (fun nq => sin_mk h ⟨5, n, dl, bs⟩ Ab kb nq) (And.intro hrr (And.intro hcr (And.intro hAr h)))); clear hrr hcr hAr h
  simp only [callV, calW, callCells, outCells] at H0 c0 c1 ⊢
  go_enter Tryd.func31, Tryd.ntmps31
  go_wp2_with fail
  go_quiet (fail)
  clear c0 c1 hsl
  have hS := H0.out.1 nq
  generalize ((w.alloc (.cells #[.int .i64 5, .int .i64 n, .int .u8 (dl.toNat : Int), .slice Ab bs.length kb] 34)).alloc (.cells #[.slice none 0 0, .int .i64 0, .int .i64 0] 36)).drewN nq = w0 at *
  have k0 : w0.cell? ⟨w.heap.size, 0, none⟩ = some (.int .i64 5) := hS.cal.cell 0
  have k1 : w0.cell? ⟨w.heap.size, 1, none⟩ = some (.int .i64 n) := hS.cal.cell 1
  have k2 : w0.cell? ⟨w.heap.size, 2, none⟩ = some (.int .u8 (dl.toNat : Int)) := hS.cal.cell 2
  have r2 : w0.cell? ⟨R, 2, none⟩ = some (.bool r.bytes) := hS.at_.blk.cell 2
  have r3 : w0.cell? ⟨R, 3, none⟩ = some (.int .i64 (r.size : Nat)) := hS.at_.blk.cell 3
  have r4 : w0.cell? ⟨R, 4, none⟩ = some (.bool r.doubt) := hS.at_.blk.cell 4
  have g4 := hS.at_.blk.frozen 4
  have d0 : w0.cell? ⟨w.heap.size + 1, 0, none⟩ = some (.slice none 0 0) := hS.out.cell 0
  have d1 : w0.cell? ⟨w.heap.size + 1, 1, none⟩ = some (.int .i64 0) := hS.out.cell 1
  have d2 : w0.cell? ⟨w.heap.size + 1, 2, none⟩ = some (.int .i64 0) := hS.out.cell 2
  have f0 := hS.out.frozen 0
  have f1 := hS.out.frozen 1
  have f2 := hS.out.frozen 2
  rcases hdd : r.doubt with _ | _
  · rw [hdd] at r4
    have hSd := hS.setD (false || r.bytes)
    have HS := Lib.hid hSd
    have Hdd := Lib.hid hdd; clear hS hdd hSd
    rw [Bool.false_or] at HS
    go_wp2_with fail
    refine bodyPost_ret (v := .tuple #[.agg (outCells none 0 0 0 4), .bool true]) (by simp [results, Tryd.results31, go_sem, outCells, d0, d1, d2]) rfl ?_
    rw [Hdd.out]
    exact sc_none HS.out 0 4 rfl
  · rw [hdd] at r4
    have hSd := hS.setD (true || r.bytes)
    have HS := Lib.hid hSd
    have Hdd := Lib.hid hdd; clear hS hdd hSd
    rw [Bool.true_or] at HS
    go_wp2_with fail
    refine bodyPost_ret (v := .tuple #[.agg (outCells none 0 0 0 4), .bool true]) (by simp [results, Tryd.results31, go_sem, outCells, d0, d1, d2]) rfl ?_
    rw [Hdd.out]
    exact sc_none HS.out 0 4 rfl

set_option maxRecDepth 100000 in
set_option maxHeartbeats 2000000 in
theorem sc_zero5 (R : Nat) (A : Option Addr) (c : Nat) (r : SR) (n : Int) (dl : UInt8) (bs : List UInt8) (Ab : Option Addr) (kb : Nat) (w : World) (h : SRAt w R A c r) (hn : n = 0) :
    Calls Tryd.prog 31 #[.pointer (some ⟨R, 0, none⟩), callV ⟨5, n, dl, bs⟩ Ab kb] w (SCall R A c { r with doubt := r.doubt || r.bytes } ⟨[], 0, 0⟩ true w) := by
  subst hn
  obtain ⟨Ar, cr, hrr, hcr, hAr, hsl⟩ := h.rest
  have c0 : (calW w ⟨5, 0, dl, bs⟩ Ab kb).cell? ⟨R, 0, none⟩ = some (.slice A r.data.length c) := (h.below (calW_below w ⟨5, 0, dl, bs⟩ Ab kb)).blk.cell 0
  have c1 : (calW w ⟨5, 0, dl, bs⟩ Ab kb).cell? ⟨R, 1, none⟩ = some (.int .i64 (r.pos : Nat)) := (h.below (calW_below w ⟨5, 0, dl, bs⟩ Ab kb)).blk.cell 1
  have H0 := Lib.hid (And.intro (fun nq => sin_mk h ⟨5, 0, dl, bs⟩ Ab kb nq) (And.intro hrr (And.intro hcr (And.intro hAr h)))); clear hrr hcr hAr h
  simp only [callV, calW, callCells, outCells] at H0 c0 c1 ⊢
  go_enter Tryd.func31, Tryd.ntmps31
  go_wp2_with fail
  go_quiet (fail)
  clear c0 c1 hsl
  have hS := H0.out.1 nq
  generalize ((w.alloc (.cells #[.int .i64 5, .int .i64 0, .int .u8 (dl.toNat : Int), .slice Ab bs.length kb] 34)).alloc (.cells #[.slice none 0 0, .int .i64 0, .int .i64 0] 36)).drewN nq = w0 at *
  have k0 : w0.cell? ⟨w.heap.size, 0, none⟩ = some (.int .i64 5) := hS.cal.cell 0
  have k1 : w0.cell? ⟨w.heap.size, 1, none⟩ = some (.int .i64 0) := hS.cal.cell 1
  have k2 : w0.cell? ⟨w.heap.size, 2, none⟩ = some (.int .u8 (dl.toNat : Int)) := hS.cal.cell 2
  have r2 : w0.cell? ⟨R, 2, none⟩ = some (.bool r.bytes) := hS.at_.blk.cell 2
  have r3 : w0.cell? ⟨R, 3, none⟩ = some (.int .i64 (r.size : Nat)) := hS.at_.blk.cell 3
  have r4 : w0.cell? ⟨R, 4, none⟩ = some (.bool r.doubt) := hS.at_.blk.cell 4
  have g4 := hS.at_.blk.frozen 4
  have d0 : w0.cell? ⟨w.heap.size + 1, 0, none⟩ = some (.slice none 0 0) := hS.out.cell 0
  have d1 : w0.cell? ⟨w.heap.size + 1, 1, none⟩ = some (.int .i64 0) := hS.out.cell 1
  have d2 : w0.cell? ⟨w.heap.size + 1, 2, none⟩ = some (.int .i64 0) := hS.out.cell 2
  have f0 := hS.out.frozen 0
  have f1 := hS.out.frozen 1
  have f2 := hS.out.frozen 2
  rcases hdd : r.doubt with _ | _
  · rw [hdd] at r4
    have hSd := hS.setD (false || r.bytes)
    have HS := Lib.hid hSd
    have Hdd := Lib.hid hdd; clear hS hdd hSd
    rw [Bool.false_or] at HS
    go_wp2_with fail
    refine bodyPost_ret (v := .tuple #[.agg (outCells none 0 0 0 0), .bool true]) (by simp [results, Tryd.results31, go_sem, outCells, d0, d1, d2]) rfl ?_
    rw [Hdd.out]
    exact sc_none HS.out 0 0 rfl
  · rw [hdd] at r4
    have hSd := hS.setD (true || r.bytes)
    have HS := Lib.hid hSd
    have Hdd := Lib.hid hdd; clear hS hdd hSd
    rw [Bool.true_or] at HS
    go_wp2_with fail
    refine bodyPost_ret (v := .tuple #[.agg (outCells none 0 0 0 0), .bool true]) (by simp [results, Tryd.results31, go_sem, outCells, d0, d1, d2]) rfl ?_
    rw [Hdd.out]
    exact sc_none HS.out 0 0 rfl
end Go.Proofs.YtancmlapnhccdaaDoor
