/- spec's reader.call: the cases that copy bytes; all cases (printed by gen_scall.py). -/
import Derived.Test.YtancmlapnhccdaaDoorSpf
namespace Go.Proofs.YtancmlapnhccdaaDoor
open Go.RowKit

theorem slice_to (A : Option Addr) (n c hi : Nat) (h : hi ≤ c) (hA : A = none → c = 0) (w : World) :
    (Instr.slice 25 (.slice A n c) none (some (.int .i64 (hi : Nat))) none).run Tryd.prog w = .ok (.slice A hi c) w := by
  have i1 : (hi : Int) ≤ (c : Int) := by omega
  rcases A with _ | ad
  · have := hA rfl
    subst this
    have : hi = 0 := by omega
    subst this
    simp [go_sem]
  · simp [go_sem, i1]
theorem Reads.take {w : World} {B n : Nat} {A : Option Addr} {l : List UInt8} (h : Reads w B 1 A n (bvs l)) (k : Nat) (hk : k ≤ n) : Reads w B 1 A k (bvs (l.take k)) := by
  have hl := h.1
  rw [bvs_length] at hl
  refine ⟨by rw [bvs_length, List.length_take]; omega, fun h0 => ?_⟩
  obtain ⟨ad, e1, e2, e3⟩ := h.2 (by omega)
  refine ⟨ad, e1, e2, fun j u hj => e3 j u ?_⟩
  rw [bvs_take, List.getElem?_take] at hj
  split at hj
  · exact hj
  · cases hj
/-- behind append([]byte{}, b...) -/
theorem sin_app {w w1 w3 : World} {R : Nat} {A : Option Addr} {c : Nat} {r : SR} {cc : Array Value} {v3 : Value} {l : List UInt8} {n : Nat} (h : SIn w w1 R A c r cc) (hn : n = l.length) {d : World} (hd : d = w1.alloc (.cells #[] 5) ∨ d = (w1.alloc (.cells #[] 5)).drew)
    (ho : w3.ownsRow w1.heap.size 5 1 v3 (0 + n) ([] ++ bvs l)) (hg : d.grownBy w3 (Value.slice (some ⟨w1.heap.size, 0, none⟩) 0 0).ownBlock) :
    ∃ a3 k3, v3 = .slice a3 l.length k3 ∧ SIn w w3 R A c r cc ∧ Below w1.heap.size w1 w3 ∧ Reads w3 w3.heap.size 1 a3 l.length (bvs l) ∧ (0 < l.length → ∃ ad, a3 = some ad ∧ w.heap.size + 2 ≤ ad.block) := by
  subst hn
  simp only [Nat.zero_add, List.nil_append] at ho
  obtain ⟨a3, k3, rfl⟩ := own_slice ho
  have hb0 : Below w1.heap.size w1 d := by
    rcases hd with e | e <;> rw [e]
    · exact (Below.refl _ _).alloc (Nat.le_refl _) _
    · exact ((Below.refl _ _).alloc (Nat.le_refl _) _).drew
  have hbl : Below w1.heap.size w1 w3 := hb0.grown hg hb0.size (fun k hk => by simp [Value.ownBlock] at hk; omega)
  refine ⟨a3, k3, rfl, h.below hbl, hbl, Reads.of_own ho, fun h0 => ?_⟩
  obtain ⟨g', cap, hv, hbg, hlt⟩ := ho.form h0
  have hA : a3 = some ⟨g', 0, none⟩ := by injection hv
  subst hA
  exact ⟨_, rfl, Nat.le_trans h.size (ho.lt g' rfl).1⟩

set_option maxRecDepth 100000 in
set_option maxHeartbeats 2000000 in
theorem sc_disc_all (R : Nat) (A : Option Addr) (c : Nat) (r : SR) (dl : UInt8) (bs : List UInt8) (Ab : Option Addr) (kb : Nat) (w : World) (h : SRAt w R A c r) (k : Nat) (hk0 : 0 < k) (hn : r.rest.length < k) :
    Calls Tryd.prog 31 #[.pointer (some ⟨R, 0, none⟩), callV ⟨5, (k : Int), dl, bs⟩ Ab kb] w (SCall R A c (r.on r.rest.length) ⟨[], ((r.rest.length : Nat) : Int), 1⟩ true w) := by
  have hnk : (r.rest.length : Int) < (k : Int) := by omega
  have hmin : min (k : Int) (r.rest.length : Int) = ((r.rest.length : Nat) : Int) := by omega
  have hkp : ¬ (k : Int) ≤ 0 := by omega
  have hrl : r.rest.length ≤ 1000000000 := by have h1 := h.room; have h2 := @rest_len r; unfold Room at h1; omega
  have Hn := Lib.hid hn; clear hn
  obtain ⟨Ar, cr, hrr, hcr, hAr, hsl⟩ := h.rest
  have c0 : (calW w ⟨5, (k : Int), dl, bs⟩ Ab kb).cell? ⟨R, 0, none⟩ = some (.slice A r.data.length c) := (h.below (calW_below w ⟨5, (k : Int), dl, bs⟩ Ab kb)).blk.cell 0
  have c1 : (calW w ⟨5, (k : Int), dl, bs⟩ Ab kb).cell? ⟨R, 1, none⟩ = some (.int .i64 (r.pos : Nat)) := (h.below (calW_below w ⟨5, (k : Int), dl, bs⟩ Ab kb)).blk.cell 1
  have H0 := Lib.hid (And.intro (fun nq => sin_mk h ⟨5, (k : Int), dl, bs⟩ Ab kb nq) (And.intro hrr (And.intro hcr (And.intro hAr h)))); clear hrr hcr hAr h
  simp only [callV, calW, callCells, outCells] at H0 c0 c1 ⊢
  go_enter Tryd.func31, Tryd.ntmps31
  go_wp2_with fail
  go_quiet (fail)
  clear c0 c1 hsl
  have hS := H0.out.1 nq
  generalize ((w.alloc (.cells #[.int .i64 5, .int .i64 (k : Int), .int .u8 (dl.toNat : Int), .slice Ab bs.length kb] 34)).alloc (.cells #[.slice none 0 0, .int .i64 0, .int .i64 0] 36)).drewN nq = w0 at *
  have k0 : w0.cell? ⟨w.heap.size, 0, none⟩ = some (.int .i64 5) := hS.cal.cell 0
  have k1 : w0.cell? ⟨w.heap.size, 1, none⟩ = some (.int .i64 (k : Int)) := hS.cal.cell 1
  have k2 : w0.cell? ⟨w.heap.size, 2, none⟩ = some (.int .u8 (dl.toNat : Int)) := hS.cal.cell 2
  have HS := Lib.hid hS; clear hS
  go_wp2_with fail
  refine (unread42 R A c r (-((r.rest.length : Nat) : Int)) (r.pos + r.rest.length) w0 HS.out.at_.blk (by omega) (by have h1 := HS.out.at_.room; have h2 := HS.out.at_.ok.pos; have h3 := @rest_len r; have h4 := Hn.out; unfold Room at h1; omega) (by have h1 := HS.out.at_.room; have h2 := HS.out.at_.ok.pos; unfold Room at h1; omega)).mono ?_
  rintro e w2 ⟨rfl, hb2, hk2⟩
  have hS2 : SIn w w2 R A c (r.on r.rest.length) _ := HS.out.next hb2 hk2 rfl (SR.on_ok HS.out.at_.ok r.rest.length (by have := Hn.out; omega))
  have k1' : w2.cell? ⟨w.heap.size, 1, none⟩ = some (.int .i64 (k : Int)) := hS2.cal.cell 1
  have d0 : w2.cell? ⟨w.heap.size + 1, 0, none⟩ = some (.slice none 0 0) := hS2.out.cell 0
  have d1 : w2.cell? ⟨w.heap.size + 1, 1, none⟩ = some (.int .i64 0) := hS2.out.cell 1
  have d2 : w2.cell? ⟨w.heap.size + 1, 2, none⟩ = some (.int .i64 0) := hS2.out.cell 2
  have f0 := hS2.out.frozen 0
  have f1 := hS2.out.frozen 1
  have f2 := hS2.out.frozen 2
  have HS2 := Lib.hid hS2; clear hS2 hb2 hk2 k0 k1 k2
  go_wp2_with fail
  refine (ended43 true w2).mono ?_
  rintro e w3 ⟨rfl, rfl⟩
  simp only [ended]
  go_wp2_with fail
  refine bodyPost_ret (v := .tuple #[.agg (outCells none 0 0 ((r.rest.length : Nat) : Int) 1), .bool true]) (by simp [results, Tryd.results31, go_sem, outCells, d0, d1, d2]) rfl ?_
  exact sc_none HS2.out ((r.rest.length : Nat) : Int) 1 rfl

set_option maxRecDepth 100000 in
set_option maxHeartbeats 2000000 in
theorem sc_disc_some (R : Nat) (A : Option Addr) (c : Nat) (r : SR) (dl : UInt8) (bs : List UInt8) (Ab : Option Addr) (kb : Nat) (w : World) (h : SRAt w R A c r) (k : Nat) (hk0 : 0 < k) (hn : k ≤ r.rest.length) :
    Calls Tryd.prog 31 #[.pointer (some ⟨R, 0, none⟩), callV ⟨5, (k : Int), dl, bs⟩ Ab kb] w (SCall R A c (r.on k) ⟨[], ((k : Nat) : Int), 0⟩ true w) := by
  have hnk : ¬ (r.rest.length : Int) < (k : Int) := by omega
  have hmin : min (k : Int) (r.rest.length : Int) = ((k : Nat) : Int) := by omega
  have hkp : ¬ (k : Int) ≤ 0 := by omega
  have hrl : r.rest.length ≤ 1000000000 := by have h1 := h.room; have h2 := @rest_len r; unfold Room at h1; omega
  have Hn := Lib.hid hn; clear hn
  obtain ⟨Ar, cr, hrr, hcr, hAr, hsl⟩ := h.rest
  have c0 : (calW w ⟨5, (k : Int), dl, bs⟩ Ab kb).cell? ⟨R, 0, none⟩ = some (.slice A r.data.length c) := (h.below (calW_below w ⟨5, (k : Int), dl, bs⟩ Ab kb)).blk.cell 0
  have c1 : (calW w ⟨5, (k : Int), dl, bs⟩ Ab kb).cell? ⟨R, 1, none⟩ = some (.int .i64 (r.pos : Nat)) := (h.below (calW_below w ⟨5, (k : Int), dl, bs⟩ Ab kb)).blk.cell 1
  have H0 := Lib.hid (And.intro (fun nq => sin_mk h ⟨5, (k : Int), dl, bs⟩ Ab kb nq) (And.intro hrr (And.intro hcr (And.intro hAr h)))); clear hrr hcr hAr h
  simp only [callV, calW, callCells, outCells] at H0 c0 c1 ⊢
  go_enter Tryd.func31, Tryd.ntmps31
  go_wp2_with fail
  go_quiet (fail)
  clear c0 c1 hsl
  have hS := H0.out.1 nq
  generalize ((w.alloc (.cells #[.int .i64 5, .int .i64 (k : Int), .int .u8 (dl.toNat : Int), .slice Ab bs.length kb] 34)).alloc (.cells #[.slice none 0 0, .int .i64 0, .int .i64 0] 36)).drewN nq = w0 at *
  have k0 : w0.cell? ⟨w.heap.size, 0, none⟩ = some (.int .i64 5) := hS.cal.cell 0
  have k1 : w0.cell? ⟨w.heap.size, 1, none⟩ = some (.int .i64 (k : Int)) := hS.cal.cell 1
  have k2 : w0.cell? ⟨w.heap.size, 2, none⟩ = some (.int .u8 (dl.toNat : Int)) := hS.cal.cell 2
  have HS := Lib.hid hS; clear hS
  go_wp2_with fail
  refine (unread42 R A c r (-((k : Nat) : Int)) (r.pos + k) w0 HS.out.at_.blk (by omega) (by have h1 := HS.out.at_.room; have h2 := HS.out.at_.ok.pos; have h3 := @rest_len r; have h4 := Hn.out; unfold Room at h1; omega) (by have h1 := HS.out.at_.room; have h2 := HS.out.at_.ok.pos; unfold Room at h1; omega)).mono ?_
  rintro e w2 ⟨rfl, hb2, hk2⟩
  have hS2 : SIn w w2 R A c (r.on k) _ := HS.out.next hb2 hk2 rfl (SR.on_ok HS.out.at_.ok k (by have := Hn.out; omega))
  have k1' : w2.cell? ⟨w.heap.size, 1, none⟩ = some (.int .i64 (k : Int)) := hS2.cal.cell 1
  have d0 : w2.cell? ⟨w.heap.size + 1, 0, none⟩ = some (.slice none 0 0) := hS2.out.cell 0
  have d1 : w2.cell? ⟨w.heap.size + 1, 1, none⟩ = some (.int .i64 0) := hS2.out.cell 1
  have d2 : w2.cell? ⟨w.heap.size + 1, 2, none⟩ = some (.int .i64 0) := hS2.out.cell 2
  have f0 := hS2.out.frozen 0
  have f1 := hS2.out.frozen 1
  have f2 := hS2.out.frozen 2
  have HS2 := Lib.hid hS2; clear hS2 hb2 hk2 k0 k1 k2
  go_wp2_with fail
  refine (ended43 false w2).mono ?_
  rintro e w3 ⟨rfl, rfl⟩
  simp only [ended]
  go_wp2_with fail
  refine bodyPost_ret (v := .tuple #[.agg (outCells none 0 0 ((k : Nat) : Int) 0), .bool true]) (by simp [results, Tryd.results31, go_sem, outCells, d0, d1, d2]) rfl ?_
  exact sc_none HS2.out ((k : Nat) : Int) 0 rfl

set_option maxRecDepth 100000 in
set_option maxHeartbeats 2000000 in
theorem sc_line6 (R : Nat) (A : Option Addr) (c : Nat) (r : SR) (n : Int) (dl : UInt8) (bs : List UInt8) (Ab : Option Addr) (kb : Nat) (w : World) (h : SRAt w R A c r) :
    Calls Tryd.prog 31 #[.pointer (some ⟨R, 0, none⟩), callV ⟨6, n, dl, bs⟩ Ab kb] w (SCall R A c (r.read (lineL r.rest dl).1.length 0) ⟨(lineL r.rest dl).1, 0, ended (lineL r.rest dl).2⟩ true w) := by
  have hrl : r.rest.length ≤ 1000000000 := by have h1 := h.room; have h2 := @rest_len r; unfold Room at h1; omega
  have hll := lineL_len r.rest dl
  obtain ⟨i0, hi0, hz0, hz1, hz2⟩ := info_parts Tryd.info5
  have HI := Lib.hid (And.intro hi0 (And.intro hz0 (And.intro hz1 hz2))); clear hi0 hz0 hz1 hz2
  obtain ⟨Ar, cr, hrr, hcr, hAr, hsl⟩ := h.rest
  have c0 : (calW w ⟨6, n, dl, bs⟩ Ab kb).cell? ⟨R, 0, none⟩ = some (.slice A r.data.length c) := (h.below (calW_below w ⟨6, n, dl, bs⟩ Ab kb)).blk.cell 0
  have c1 : (calW w ⟨6, n, dl, bs⟩ Ab kb).cell? ⟨R, 1, none⟩ = some (.int .i64 (r.pos : Nat)) := (h.below (calW_below w ⟨6, n, dl, bs⟩ Ab kb)).blk.cell 1
  have H0 := Lib.hid (And.intro (fun nq => sin_mk h ⟨6, n, dl, bs⟩ Ab kb nq) (And.intro hrr (And.intro hcr (And.intro hAr h)))); clear hrr hcr hAr h
  simp only [callV, calW, callCells, outCells] at H0 c0 c1 ⊢
  go_enter Tryd.func31, Tryd.ntmps31
  go_wp2_with fail
  go_quiet (fail)
  clear c0 c1 hsl
  have hS := H0.out.1 nq
  generalize ((w.alloc (.cells #[.int .i64 6, .int .i64 n, .int .u8 (dl.toNat : Int), .slice Ab bs.length kb] 34)).alloc (.cells #[.slice none 0 0, .int .i64 0, .int .i64 0] 36)).drewN nq = w0 at *
  have k0 : w0.cell? ⟨w.heap.size, 0, none⟩ = some (.int .i64 6) := hS.cal.cell 0
  have k1 : w0.cell? ⟨w.heap.size, 1, none⟩ = some (.int .i64 n) := hS.cal.cell 1
  have k2 : w0.cell? ⟨w.heap.size, 2, none⟩ = some (.int .u8 (dl.toNat : Int)) := hS.cal.cell 2
  have HS := Lib.hid hS; clear hS
  have hrd0 : Reads w0 R 1 Ar r.rest.length (bvs r.rest) := H0.out.2.1.below (HS.out.keep.below (fun k e => by omega) (Nat.le_of_lt HS.out.lt))
  have HF := Lib.hid (line44 Ar cr r.rest dl R w0 hrd0 H0.out.2.2.1 hrl)
  have hread := SR.read_ok HS.out.at_.ok (lineL r.rest dl).1.length 0 hll (Nat.zero_le _)
  have Hread := Lib.hid hread; clear hread
  have hpr : r.pos + (lineL r.rest dl).1.length ≤ 2000000000 := by
    have h1 := HS.out.at_.room
    have h2 := HS.out.at_.ok.pos
    unfold Room at h1
    omega
  have hlr : Reads w0 R 1 Ar (lineL r.rest dl).1.length (bvs (lineL r.rest dl).1) := by
    have := hrd0.take (lineL r.rest dl).1.length hll
    have e : r.rest.take (lineL r.rest dl).1.length = (lineL r.rest dl).1 := by
      have h1 := congrArg (List.take (lineL r.rest dl).1.length) (lineL_prefix r.rest dl)
      rw [List.take_append_of_le_length (Nat.le_refl _), List.take_length] at h1
      exact h1.symm
    rw [e] at this
    exact this
  have HL := Lib.hid hlr; clear hlr hrd0
  obtain ⟨⟨l, nn⟩, hx⟩ : ∃ x, x = lineL r.rest dl := ⟨_, rfl⟩
  rw [← hx] at HF Hread hll hpr HL
  simp only at HF Hread hll hpr HL
  have Hx := Lib.hid hx.symm; clear hx
  have hlb : l.length ≤ 1000000000 := by omega
  go_wp2_with fail
  refine HF.out.mono ?_
  rintro e w1 ⟨rfl, rfl⟩
  go_wp2_with fail
  refine (read41 R A c r l.length 0 w0 HS.out.at_.blk hpr).mono ?_
  rintro e w2 ⟨rfl, hb2, hk2⟩
  have hS2 := HS.out.next hb2 hk2 rfl Hread.out
  have hl2 : Reads w2 R 1 Ar l.length (bvs l) := HL.out.below (hk2.below (fun k e => by omega) (Nat.le_of_lt HS.out.at_.blk.lt))
  have hr2 : Reads (w2.alloc (.cells #[] 5)) R 1 Ar l.length (bvs l) := hl2.alloc (Nat.le_of_lt hS2.at_.blk.lt) _
  have hown : (w2.alloc (.cells #[] 5)).ownsRow w2.heap.size 5 1 (.slice (some ⟨w2.heap.size, 0, none⟩) 0 0) 0 [] := World.ownsRow_made w2 #[] 0 (Nat.le_refl _) (by simp [maxLen]) (by simp)
  have hrm : Room (0 + l.length) := by rw [Nat.zero_add]; exact hlb
  have hsz : w2.heap.size ≤ (w2.alloc (.cells #[] 5)).heap.size := by simp
  have H1 := Lib.hid (And.intro hS2 (And.intro hr2 (And.intro hown (And.intro (bvs_one l) (And.intro hrm hsz))))); clear hS2 hr2 hown hrm hsz hl2 hb2 hk2 k0 k1 k2
  go_wp2_with (at_builtin; refine wpList_append_any _ rfl (.tmp 193) (.tmp 194) _ rfl w2.heap.size 5 i0 _ 1 1 Tryd.underlying25 HI.out.1 HI.out.2.1 HI.out.2.2.1 HI.out.2.2.2 rfl (by omega) (.slice (some ⟨w2.heap.size, 0, none⟩) 0 0) 0 [] rfl H1.out.2.2.1 R Ar l.length cr (bvs l) rfl H1.out.2.1 H1.out.2.2.2.1 H1.out.2.2.2.2.1.len (H1.out.2.2.2.2.1.bytes 1 (by omega)) H1.out.2.2.2.2.2 ?_; intro v3 w3 hown3 hg3 hat3; obtain ⟨a3, k3, rfl, hS3, hbl3, hrd3, hA3⟩ := sin_app H1.out.1 rfl (.inl rfl) hown3 hg3; have H3 := Lib.hid (And.intro hS3 (And.intro hbl3 (And.intro hrd3 hA3))); clear hown3 hg3 hat3 hS3 hbl3 hrd3 hA3)
  refine (ended43 nn w3).mono ?_
  rintro e w4 ⟨rfl, rfl⟩
  have d0 : w3.cell? ⟨w.heap.size + 1, 0, none⟩ = some (.slice none 0 0) := H3.out.1.out.cell 0
  have d1 : w3.cell? ⟨w.heap.size + 1, 1, none⟩ = some (.int .i64 0) := H3.out.1.out.cell 1
  have d2 : w3.cell? ⟨w.heap.size + 1, 2, none⟩ = some (.int .i64 0) := H3.out.1.out.cell 2
  have f0 := H3.out.1.out.frozen 0
  have f1 := H3.out.1.out.frozen 1
  have f2 := H3.out.1.out.frozen 2
  go_wp2_with fail
  refine bodyPost_ret (v := .tuple #[.agg (outCells a3 l.length k3 0 ((ended nn : Nat) : Int)), .bool true]) (by simp [results, Tryd.results31, go_sem, outCells, d0, d1, d2]) rfl ?_
  rw [Hx.out]
  exact sc_close (o := ⟨l, 0, ended nn⟩) H3.out.1 H3.out.2.2.1 H3.out.2.2.2 rfl

set_option maxRecDepth 100000 in
set_option maxHeartbeats 2000000 in
theorem sc_line7 (R : Nat) (A : Option Addr) (c : Nat) (r : SR) (n : Int) (dl : UInt8) (bs : List UInt8) (Ab : Option Addr) (kb : Nat) (w : World) (h : SRAt w R A c r) :
    Calls Tryd.prog 31 #[.pointer (some ⟨R, 0, none⟩), callV ⟨7, n, dl, bs⟩ Ab kb] w (SCall R A c (r.read (lineL r.rest dl).1.length 0) ⟨(lineL r.rest dl).1, 0, ended (lineL r.rest dl).2⟩ true w) := by
  have hrl : r.rest.length ≤ 1000000000 := by have h1 := h.room; have h2 := @rest_len r; unfold Room at h1; omega
  have hll := lineL_len r.rest dl
  obtain ⟨i0, hi0, hz0, hz1, hz2⟩ := info_parts Tryd.info5
  have HI := Lib.hid (And.intro hi0 (And.intro hz0 (And.intro hz1 hz2))); clear hi0 hz0 hz1 hz2
  obtain ⟨Ar, cr, hrr, hcr, hAr, hsl⟩ := h.rest
  have c0 : (calW w ⟨7, n, dl, bs⟩ Ab kb).cell? ⟨R, 0, none⟩ = some (.slice A r.data.length c) := (h.below (calW_below w ⟨7, n, dl, bs⟩ Ab kb)).blk.cell 0
  have c1 : (calW w ⟨7, n, dl, bs⟩ Ab kb).cell? ⟨R, 1, none⟩ = some (.int .i64 (r.pos : Nat)) := (h.below (calW_below w ⟨7, n, dl, bs⟩ Ab kb)).blk.cell 1
  have H0 := Lib.hid (And.intro (fun nq => sin_mk h ⟨7, n, dl, bs⟩ Ab kb nq) (And.intro hrr (And.intro hcr (And.intro hAr h)))); clear hrr hcr hAr h
  simp only [callV, calW, callCells, outCells] at H0 c0 c1 ⊢
  go_enter Tryd.func31, Tryd.ntmps31
  go_wp2_with fail
  go_quiet (fail)
  clear c0 c1 hsl
  have hS := H0.out.1 nq
  generalize ((w.alloc (.cells #[.int .i64 7, .int .i64 n, .int .u8 (dl.toNat : Int), .slice Ab bs.length kb] 34)).alloc (.cells #[.slice none 0 0, .int .i64 0, .int .i64 0] 36)).drewN nq = w0 at *
  have k0 : w0.cell? ⟨w.heap.size, 0, none⟩ = some (.int .i64 7) := hS.cal.cell 0
  have k1 : w0.cell? ⟨w.heap.size, 1, none⟩ = some (.int .i64 n) := hS.cal.cell 1
  have k2 : w0.cell? ⟨w.heap.size, 2, none⟩ = some (.int .u8 (dl.toNat : Int)) := hS.cal.cell 2
  have HS := Lib.hid hS; clear hS
  have hrd0 : Reads w0 R 1 Ar r.rest.length (bvs r.rest) := H0.out.2.1.below (HS.out.keep.below (fun k e => by omega) (Nat.le_of_lt HS.out.lt))
  have HF := Lib.hid (line44 Ar cr r.rest dl R w0 hrd0 H0.out.2.2.1 hrl)
  have hread := SR.read_ok HS.out.at_.ok (lineL r.rest dl).1.length 0 hll (Nat.zero_le _)
  have Hread := Lib.hid hread; clear hread
  have hpr : r.pos + (lineL r.rest dl).1.length ≤ 2000000000 := by
    have h1 := HS.out.at_.room
    have h2 := HS.out.at_.ok.pos
    unfold Room at h1
    omega
  have hlr : Reads w0 R 1 Ar (lineL r.rest dl).1.length (bvs (lineL r.rest dl).1) := by
    have := hrd0.take (lineL r.rest dl).1.length hll
    have e : r.rest.take (lineL r.rest dl).1.length = (lineL r.rest dl).1 := by
      have h1 := congrArg (List.take (lineL r.rest dl).1.length) (lineL_prefix r.rest dl)
      rw [List.take_append_of_le_length (Nat.le_refl _), List.take_length] at h1
      exact h1.symm
    rw [e] at this
    exact this
  have HL := Lib.hid hlr; clear hlr hrd0
  obtain ⟨⟨l, nn⟩, hx⟩ : ∃ x, x = lineL r.rest dl := ⟨_, rfl⟩
  rw [← hx] at HF Hread hll hpr HL
  simp only at HF Hread hll hpr HL
  have Hx := Lib.hid hx.symm; clear hx
  have hlb : l.length ≤ 1000000000 := by omega
  go_wp2_with fail
  refine HF.out.mono ?_
  rintro e w1 ⟨rfl, rfl⟩
  go_wp2_with fail
  refine (read41 R A c r l.length 0 w0 HS.out.at_.blk hpr).mono ?_
  rintro e w2 ⟨rfl, hb2, hk2⟩
  have hS2 := HS.out.next hb2 hk2 rfl Hread.out
  have hl2 : Reads w2 R 1 Ar l.length (bvs l) := HL.out.below (hk2.below (fun k e => by omega) (Nat.le_of_lt HS.out.at_.blk.lt))
  have hr2 : Reads (w2.alloc (.cells #[] 5)) R 1 Ar l.length (bvs l) := hl2.alloc (Nat.le_of_lt hS2.at_.blk.lt) _
  have hown : (w2.alloc (.cells #[] 5)).ownsRow w2.heap.size 5 1 (.slice (some ⟨w2.heap.size, 0, none⟩) 0 0) 0 [] := World.ownsRow_made w2 #[] 0 (Nat.le_refl _) (by simp [maxLen]) (by simp)
  have hrm : Room (0 + l.length) := by rw [Nat.zero_add]; exact hlb
  have hsz : w2.heap.size ≤ (w2.alloc (.cells #[] 5)).heap.size := by simp
  have H1 := Lib.hid (And.intro hS2 (And.intro hr2 (And.intro hown (And.intro (bvs_one l) (And.intro hrm hsz))))); clear hS2 hr2 hown hrm hsz hl2 hb2 hk2 k0 k1 k2
  go_wp2_with (at_builtin; refine wpList_append_any _ rfl (.tmp 193) (.tmp 194) _ rfl w2.heap.size 5 i0 _ 1 1 Tryd.underlying25 HI.out.1 HI.out.2.1 HI.out.2.2.1 HI.out.2.2.2 rfl (by omega) (.slice (some ⟨w2.heap.size, 0, none⟩) 0 0) 0 [] rfl H1.out.2.2.1 R Ar l.length cr (bvs l) rfl H1.out.2.1 H1.out.2.2.2.1 H1.out.2.2.2.2.1.len (H1.out.2.2.2.2.1.bytes 1 (by omega)) H1.out.2.2.2.2.2 ?_; intro v3 w3 hown3 hg3 hat3; obtain ⟨a3, k3, rfl, hS3, hbl3, hrd3, hA3⟩ := sin_app H1.out.1 rfl (.inl rfl) hown3 hg3; have H3 := Lib.hid (And.intro hS3 (And.intro hbl3 (And.intro hrd3 hA3))); clear hown3 hg3 hat3 hS3 hbl3 hrd3 hA3)
  refine (ended43 nn w3).mono ?_
  rintro e w4 ⟨rfl, rfl⟩
  have d0 : w3.cell? ⟨w.heap.size + 1, 0, none⟩ = some (.slice none 0 0) := H3.out.1.out.cell 0
  have d1 : w3.cell? ⟨w.heap.size + 1, 1, none⟩ = some (.int .i64 0) := H3.out.1.out.cell 1
  have d2 : w3.cell? ⟨w.heap.size + 1, 2, none⟩ = some (.int .i64 0) := H3.out.1.out.cell 2
  have f0 := H3.out.1.out.frozen 0
  have f1 := H3.out.1.out.frozen 1
  have f2 := H3.out.1.out.frozen 2
  go_wp2_with fail
  refine bodyPost_ret (v := .tuple #[.agg (outCells a3 l.length k3 0 ((ended nn : Nat) : Int)), .bool true]) (by simp [results, Tryd.results31, go_sem, outCells, d0, d1, d2]) rfl ?_
  rw [Hx.out]
  exact sc_close (o := ⟨l, 0, ended nn⟩) H3.out.1 H3.out.2.2.1 H3.out.2.2.2 rfl

set_option maxRecDepth 100000 in
set_option maxHeartbeats 2000000 in
theorem sc_peek_all (R : Nat) (A : Option Addr) (c : Nat) (r : SR) (dl : UInt8) (bs : List UInt8) (Ab : Option Addr) (kb : Nat) (w : World) (h : SRAt w R A c r) (k : Nat) (hn : r.rest.length < k) :
    Calls Tryd.prog 31 #[.pointer (some ⟨R, 0, none⟩), callV ⟨4, (k : Int), dl, bs⟩ Ab kb] w (SCall R A c (r.on 0) ⟨r.rest.take r.rest.length, 0, 1⟩ (decide ((k : Int) ≤ 16)) w) := by
  have hnk : (r.rest.length : Int) < (k : Int) := by omega
  have hmin : min (k : Int) (r.rest.length : Int) = ((r.rest.length : Nat) : Int) := by omega
  have hkp : ¬ (k : Int) < 0 := by omega
  have hrl : r.rest.length ≤ 1000000000 := by have h1 := h.room; have h2 := @rest_len r; unfold Room at h1; omega
  have Hn := Lib.hid hn; clear hn
  obtain ⟨i0, hi0, hz0, hz1, hz2⟩ := info_parts Tryd.info5
  have HI := Lib.hid (And.intro hi0 (And.intro hz0 (And.intro hz1 hz2))); clear hi0 hz0 hz1 hz2
  obtain ⟨Ar, cr, hrr, hcr, hAr, hsl⟩ := h.rest
  have c0 : (calW w ⟨4, (k : Int), dl, bs⟩ Ab kb).cell? ⟨R, 0, none⟩ = some (.slice A r.data.length c) := (h.below (calW_below w ⟨4, (k : Int), dl, bs⟩ Ab kb)).blk.cell 0
  have c1 : (calW w ⟨4, (k : Int), dl, bs⟩ Ab kb).cell? ⟨R, 1, none⟩ = some (.int .i64 (r.pos : Nat)) := (h.below (calW_below w ⟨4, (k : Int), dl, bs⟩ Ab kb)).blk.cell 1
  have H0 := Lib.hid (And.intro (fun nq => sin_mk h ⟨4, (k : Int), dl, bs⟩ Ab kb nq) (And.intro hrr (And.intro hcr (And.intro hAr h)))); clear hrr hcr hAr h
  simp only [callV, calW, callCells, outCells] at H0 c0 c1 ⊢
  go_enter Tryd.func31, Tryd.ntmps31
  go_wp2_with fail
  go_quiet (fail)
  clear c0 c1 hsl
  have hS := H0.out.1 nq
  generalize ((w.alloc (.cells #[.int .i64 4, .int .i64 (k : Int), .int .u8 (dl.toNat : Int), .slice Ab bs.length kb] 34)).alloc (.cells #[.slice none 0 0, .int .i64 0, .int .i64 0] 36)).drewN nq = w0 at *
  have k0 : w0.cell? ⟨w.heap.size, 0, none⟩ = some (.int .i64 4) := hS.cal.cell 0
  have k1 : w0.cell? ⟨w.heap.size, 1, none⟩ = some (.int .i64 (k : Int)) := hS.cal.cell 1
  have k2 : w0.cell? ⟨w.heap.size, 2, none⟩ = some (.int .u8 (dl.toNat : Int)) := hS.cal.cell 2
  have HS := Lib.hid hS; clear hS
  have hrd0 : Reads w0 R 1 Ar r.rest.length (bvs r.rest) := H0.out.2.1.below (HS.out.keep.below (fun k e => by omega) (Nat.le_of_lt HS.out.lt))
  have hlr : Reads w0 R 1 Ar r.rest.length (bvs (r.rest.take r.rest.length)) := hrd0.take r.rest.length (by have := Hn.out; omega)
  obtain ⟨l, hx⟩ : ∃ l, l = r.rest.take r.rest.length := ⟨_, rfl⟩
  have hxl : l.length = r.rest.length := by rw [hx, List.length_take]; have := Hn.out; omega
  rw [← hx] at hlr
  have HL := Lib.hid (And.intro hlr hxl)
  have hsl := slice_to Ar r.rest.length cr r.rest.length (by have := H0.out.2.2.1; have := Hn.out; omega) H0.out.2.2.2.1
  have Hx := Lib.hid hx.symm; clear hlr hrd0 hx hxl
  go_wp2_with fail
  refine (unread42 R A c r 0 r.pos w0 HS.out.at_.blk (by omega) (by have h1 := HS.out.at_.room; have h2 := HS.out.at_.ok.pos; unfold Room at h1; omega) (by have h1 := HS.out.at_.room; have h2 := HS.out.at_.ok.pos; unfold Room at h1; omega)).mono ?_
  rintro e w2 ⟨rfl, hb2, hk2⟩
  have hS2 : SIn w w2 R A c (r.on 0) _ := HS.out.next hb2 hk2 rfl (SR.on_ok HS.out.at_.ok 0 (Nat.zero_le _))
  have hl2 : Reads w2 R 1 Ar r.rest.length (bvs l) := HL.out.1.below (hk2.below (fun k e => by omega) (Nat.le_of_lt HS.out.at_.blk.lt))
  have hr2 : Reads (w2.alloc (.cells #[] 5)).drew R 1 Ar r.rest.length (bvs l) := (hl2.alloc (Nat.le_of_lt hS2.at_.blk.lt) _).drew
  have hown : (w2.alloc (.cells #[] 5)).drew.ownsRow w2.heap.size 5 1 (.slice (some ⟨w2.heap.size, 0, none⟩) 0 0) 0 [] := own_keep (World.ownsRow_made w2 #[] 0 (Nat.le_refl _) (by simp [maxLen]) (by simp)) ((Keep.refl (fun _ => False) _).drew) (fun _ _ h => h)
  have hrm : Room (0 + r.rest.length) := by rw [Nat.zero_add]; have := Hn.out; unfold Room; omega
  have hsz : w2.heap.size ≤ (w2.alloc (.cells #[] 5)).drew.heap.size := by show w2.heap.size ≤ (w2.alloc _).heap.size; simp
  have hwz : w.heap.size < w2.heap.size := hS2.cal.lt
  have k1' : w2.cell? ⟨w.heap.size, 1, none⟩ = some (.int .i64 (k : Int)) := hS2.cal.cell 1
  have q0 := Lib.hid k1'
  have qa := Lib.hid ((World.cell?_alloc_lt w2 (.cells #[] 5) ⟨w.heap.size, 1, none⟩ hwz).trans k1')
  have hne1 : (⟨w.heap.size, 1, none⟩ : Addr).block ≠ w.heap.size + 1 := by show w.heap.size ≠ _; omega
  have H1 := Lib.hid (And.intro hS2 (And.intro hr2 (And.intro hown (And.intro (bvs_one l) (And.intro hrm hsz))))); clear hS2 hr2 hown hrm hsz hl2 hb2 hk2 k0 k1 k2 k1'
  go_wp2_with fail
  go_region_held3 (fun w' => w'.cell? ⟨w.heap.size, 1, none⟩ = some (.int .i64 (k : Int))) (first | exact q0.out | exact qa.out | exact q3.out | exact (outW_far hne1 _ _ _).trans q3.out)
    (first
      | (go_at_call 43; refine (ended43 true _).mono ?_; rintro e w5 ⟨rfl, rfl⟩)
      | (refine step_append_any _ (by rfl) (.tmp 129) (.tmp 132) _ (by rfl) w2.heap.size 5 i0 _ 1 1 Tryd.underlying25 HI.out.1 HI.out.2.1 HI.out.2.2.1 HI.out.2.2.2 rfl (by omega) (.slice (some ⟨w2.heap.size, 0, none⟩) 0 0) 0 [] (by rfl) H1.out.2.2.1 R Ar r.rest.length cr (bvs l) (by rfl) H1.out.2.1 H1.out.2.2.2.1 H1.out.2.2.2.2.1.len (H1.out.2.2.2.2.1.bytes 1 (by omega)) H1.out.2.2.2.2.2 ?_; intro v3 w3 hown3 hg3 hat3; obtain ⟨a3, k3, rfl, hS3, hbl3, hrd3, hA3⟩ := sin_app H1.out.1 HL.out.2.symm (.inr rfl) hown3 hg3; have q3 := Lib.hid ((hbl3.cell (p := ⟨w.heap.size, 1, none⟩) hwz).trans q0.out); have H3 := Lib.hid (And.intro hS3 (And.intro hbl3 (And.intro hrd3 hA3))); have d0 := hS3.out.cell 0; have d1 := hS3.out.cell 1; have d2 := hS3.out.cell 2; simp [outCells] at d0 d1 d2; have f0 := hS3.out.frozen 0; have f1 := hS3.out.frozen 1; have f2 := hS3.out.frozen 2; clear hown3 hg3 hat3 hS3 hbl3 hrd3 hA3 q0 qa)
      | fail)
  all_goals go_wp2_with fail
  all_goals refine bodyPost_ret (v := .tuple #[.agg (outCells a3 l.length k3 0 1), .bool (decide ((k : Int) ≤ 16))]) (by simp [results, Tryd.results31, go_sem, outCells, d0, d1, d2, ended]) rfl ?_
  all_goals
    rw [Hx.out]
    exact (sc_close (o := ⟨l, 0, 1⟩) H3.out.1 H3.out.2.2.1 H3.out.2.2.2 rfl)

set_option maxRecDepth 100000 in
set_option maxHeartbeats 2000000 in
theorem sc_peek_some (R : Nat) (A : Option Addr) (c : Nat) (r : SR) (dl : UInt8) (bs : List UInt8) (Ab : Option Addr) (kb : Nat) (w : World) (h : SRAt w R A c r) (k : Nat) (hn : k ≤ r.rest.length) :
    Calls Tryd.prog 31 #[.pointer (some ⟨R, 0, none⟩), callV ⟨4, (k : Int), dl, bs⟩ Ab kb] w (SCall R A c (r.on 0) ⟨r.rest.take k, 0, 0⟩ (decide ((k : Int) ≤ 16)) w) := by
  have hnk : ¬ (r.rest.length : Int) < (k : Int) := by omega
  have hmin : min (k : Int) (r.rest.length : Int) = ((k : Nat) : Int) := by omega
  have hkp : ¬ (k : Int) < 0 := by omega
  have hrl : r.rest.length ≤ 1000000000 := by have h1 := h.room; have h2 := @rest_len r; unfold Room at h1; omega
  have Hn := Lib.hid hn; clear hn
  obtain ⟨i0, hi0, hz0, hz1, hz2⟩ := info_parts Tryd.info5
  have HI := Lib.hid (And.intro hi0 (And.intro hz0 (And.intro hz1 hz2))); clear hi0 hz0 hz1 hz2
  obtain ⟨Ar, cr, hrr, hcr, hAr, hsl⟩ := h.rest
  have c0 : (calW w ⟨4, (k : Int), dl, bs⟩ Ab kb).cell? ⟨R, 0, none⟩ = some (.slice A r.data.length c) := (h.below (calW_below w ⟨4, (k : Int), dl, bs⟩ Ab kb)).blk.cell 0
  have c1 : (calW w ⟨4, (k : Int), dl, bs⟩ Ab kb).cell? ⟨R, 1, none⟩ = some (.int .i64 (r.pos : Nat)) := (h.below (calW_below w ⟨4, (k : Int), dl, bs⟩ Ab kb)).blk.cell 1
  have H0 := Lib.hid (And.intro (fun nq => sin_mk h ⟨4, (k : Int), dl, bs⟩ Ab kb nq) (And.intro hrr (And.intro hcr (And.intro hAr h)))); clear hrr hcr hAr h
  simp only [callV, calW, callCells, outCells] at H0 c0 c1 ⊢
  go_enter Tryd.func31, Tryd.ntmps31
  go_wp2_with fail
  go_quiet (fail)
  clear c0 c1 hsl
  have hS := H0.out.1 nq
  generalize ((w.alloc (.cells #[.int .i64 4, .int .i64 (k : Int), .int .u8 (dl.toNat : Int), .slice Ab bs.length kb] 34)).alloc (.cells #[.slice none 0 0, .int .i64 0, .int .i64 0] 36)).drewN nq = w0 at *
  have k0 : w0.cell? ⟨w.heap.size, 0, none⟩ = some (.int .i64 4) := hS.cal.cell 0
  have k1 : w0.cell? ⟨w.heap.size, 1, none⟩ = some (.int .i64 (k : Int)) := hS.cal.cell 1
  have k2 : w0.cell? ⟨w.heap.size, 2, none⟩ = some (.int .u8 (dl.toNat : Int)) := hS.cal.cell 2
  have HS := Lib.hid hS; clear hS
  have hrd0 : Reads w0 R 1 Ar r.rest.length (bvs r.rest) := H0.out.2.1.below (HS.out.keep.below (fun k e => by omega) (Nat.le_of_lt HS.out.lt))
  have hlr : Reads w0 R 1 Ar k (bvs (r.rest.take k)) := hrd0.take k (by have := Hn.out; omega)
  obtain ⟨l, hx⟩ : ∃ l, l = r.rest.take k := ⟨_, rfl⟩
  have hxl : l.length = k := by rw [hx, List.length_take]; have := Hn.out; omega
  rw [← hx] at hlr
  have HL := Lib.hid (And.intro hlr hxl)
  have hsl := slice_to Ar r.rest.length cr k (by have := H0.out.2.2.1; have := Hn.out; omega) H0.out.2.2.2.1
  have Hx := Lib.hid hx.symm; clear hlr hrd0 hx hxl
  go_wp2_with fail
  refine (unread42 R A c r 0 r.pos w0 HS.out.at_.blk (by omega) (by have h1 := HS.out.at_.room; have h2 := HS.out.at_.ok.pos; unfold Room at h1; omega) (by have h1 := HS.out.at_.room; have h2 := HS.out.at_.ok.pos; unfold Room at h1; omega)).mono ?_
  rintro e w2 ⟨rfl, hb2, hk2⟩
  have hS2 : SIn w w2 R A c (r.on 0) _ := HS.out.next hb2 hk2 rfl (SR.on_ok HS.out.at_.ok 0 (Nat.zero_le _))
  have hl2 : Reads w2 R 1 Ar k (bvs l) := HL.out.1.below (hk2.below (fun k e => by omega) (Nat.le_of_lt HS.out.at_.blk.lt))
  have hr2 : Reads (w2.alloc (.cells #[] 5)).drew R 1 Ar k (bvs l) := (hl2.alloc (Nat.le_of_lt hS2.at_.blk.lt) _).drew
  have hown : (w2.alloc (.cells #[] 5)).drew.ownsRow w2.heap.size 5 1 (.slice (some ⟨w2.heap.size, 0, none⟩) 0 0) 0 [] := own_keep (World.ownsRow_made w2 #[] 0 (Nat.le_refl _) (by simp [maxLen]) (by simp)) ((Keep.refl (fun _ => False) _).drew) (fun _ _ h => h)
  have hrm : Room (0 + k) := by rw [Nat.zero_add]; have := Hn.out; unfold Room; omega
  have hsz : w2.heap.size ≤ (w2.alloc (.cells #[] 5)).drew.heap.size := by show w2.heap.size ≤ (w2.alloc _).heap.size; simp
  have hwz : w.heap.size < w2.heap.size := hS2.cal.lt
  have k1' : w2.cell? ⟨w.heap.size, 1, none⟩ = some (.int .i64 (k : Int)) := hS2.cal.cell 1
  have q0 := Lib.hid k1'
  have qa := Lib.hid ((World.cell?_alloc_lt w2 (.cells #[] 5) ⟨w.heap.size, 1, none⟩ hwz).trans k1')
  have hne1 : (⟨w.heap.size, 1, none⟩ : Addr).block ≠ w.heap.size + 1 := by show w.heap.size ≠ _; omega
  have H1 := Lib.hid (And.intro hS2 (And.intro hr2 (And.intro hown (And.intro (bvs_one l) (And.intro hrm hsz))))); clear hS2 hr2 hown hrm hsz hl2 hb2 hk2 k0 k1 k2 k1'
  go_wp2_with fail
  go_region_held3 (fun w' => w'.cell? ⟨w.heap.size, 1, none⟩ = some (.int .i64 (k : Int))) (first | exact q0.out | exact qa.out | exact q3.out | exact (outW_far hne1 _ _ _).trans q3.out)
    (first
      | (go_at_call 43; refine (ended43 false _).mono ?_; rintro e w5 ⟨rfl, rfl⟩)
      | (refine step_append_any _ (by rfl) (.tmp 129) (.tmp 132) _ (by rfl) w2.heap.size 5 i0 _ 1 1 Tryd.underlying25 HI.out.1 HI.out.2.1 HI.out.2.2.1 HI.out.2.2.2 rfl (by omega) (.slice (some ⟨w2.heap.size, 0, none⟩) 0 0) 0 [] (by rfl) H1.out.2.2.1 R Ar k cr (bvs l) (by rfl) H1.out.2.1 H1.out.2.2.2.1 H1.out.2.2.2.2.1.len (H1.out.2.2.2.2.1.bytes 1 (by omega)) H1.out.2.2.2.2.2 ?_; intro v3 w3 hown3 hg3 hat3; obtain ⟨a3, k3, rfl, hS3, hbl3, hrd3, hA3⟩ := sin_app H1.out.1 HL.out.2.symm (.inr rfl) hown3 hg3; have q3 := Lib.hid ((hbl3.cell (p := ⟨w.heap.size, 1, none⟩) hwz).trans q0.out); have H3 := Lib.hid (And.intro hS3 (And.intro hbl3 (And.intro hrd3 hA3))); have d0 := hS3.out.cell 0; have d1 := hS3.out.cell 1; have d2 := hS3.out.cell 2; simp [outCells] at d0 d1 d2; have f0 := hS3.out.frozen 0; have f1 := hS3.out.frozen 1; have f2 := hS3.out.frozen 2; clear hown3 hg3 hat3 hS3 hbl3 hrd3 hA3 q0 qa)
      | fail)
  all_goals go_wp2_with fail
  all_goals refine bodyPost_ret (v := .tuple #[.agg (outCells a3 l.length k3 0 0), .bool (decide ((k : Int) ≤ 16))]) (by simp [results, Tryd.results31, go_sem, outCells, d0, d1, d2, ended]) rfl ?_
  all_goals
    rw [Hx.out]
    exact (sc_close (o := ⟨l, 0, 0⟩) H3.out.1 H3.out.2.2.1 H3.out.2.2.2 rfl)

/-- reader.call, whatever the call of the reader -/
theorem scall31 (R : Nat) (A : Option Addr) (c : Nat) (r : SR) (x : CallD) (Ab : Option Addr) (kb : Nat) (w : World) (h : SRAt w R A c r) (hx : isRd x) :
    Calls Tryd.prog 31 #[.pointer (some ⟨R, 0, none⟩), callV x Ab kb] w (SCall R A c (r.call x).1 (r.call x).2.1 (r.call x).2.2 w) := by
  obtain ⟨kind, n, dl, bs⟩ := x
  obtain ⟨h1, h2⟩ := hx
  simp only at h1 h2
  have hk : kind = 0 ∨ kind = 1 ∨ kind = 2 ∨ kind = 3 ∨ kind = 4 ∨ kind = 5 ∨ kind = 6 ∨ kind = 7 := by omega
  rcases hk with rfl | rfl | rfl | rfl | rfl | rfl | rfl | rfl
  · by_cases he : r.rest = []
    · have e : r.call ⟨0, n, dl, bs⟩ = (r.read 0 0, ⟨[], 0, 1⟩, true) := by simp [SR.call, he]
      rw [e]; exact sc_end0 R A c r n dl bs Ab kb w h he
    · have e : r.call ⟨0, n, dl, bs⟩ = (r.read 1 0, ⟨[], ((r.rest.getD 0 0).toNat : Int), 0⟩, true) := by simp only [SR.call, if_neg he, if_true]
      rw [e]; exact sc_byte R A c r n dl bs Ab kb w h he
  · by_cases he : r.rest = []
    · have e : r.call ⟨1, n, dl, bs⟩ = (r.read 0 0, ⟨[], 0, 1⟩, true) := by simp [SR.call, he]
      rw [e]; exact sc_end1 R A c r n dl bs Ab kb w h he
    · have e : r.call ⟨1, n, dl, bs⟩ = (r.read (decM r.rest).2 (decM r.rest).2, ⟨List.replicate (decM r.rest).2 0, ((decM r.rest).1 : Int), 0⟩, true) := by simp [SR.call, he]
      rw [e]; exact sc_rune R A c r n dl bs Ab kb w h he
  · rcases hd : r.doubt with _ | _
    · rcases hb : r.bytes with _ | _
      · have e : r.call ⟨2, n, dl, bs⟩ = (r, ⟨[], 0, 2⟩, true) := by simp [SR.call, hd, hb]
        rw [e]; exact sc_nobyte R A c r n dl bs Ab kb w h hd hb
      · have e : r.call ⟨2, n, dl, bs⟩ = (r.back 1, noOut, true) := by simp [SR.call, hd, hb]
        rw [e]; exact sc_unbyte R A c r n dl bs Ab kb w h hd hb
    · have e : r.call ⟨2, n, dl, bs⟩ = (r, noOut, false) := by simp [SR.call, hd]
      rw [e]; exact sc_doubt2 R A c r n dl bs Ab kb w h hd
  · rcases hd : r.doubt with _ | _
    · by_cases hs : r.size = 0
      · have e : r.call ⟨3, n, dl, bs⟩ = ({ r with doubt := r.bytes }, ⟨[], 0, 3⟩, true) := by simp [SR.call, hd, hs]
        rw [e]; exact sc_norune R A c r n dl bs Ab kb w h hd hs
      · have e : r.call ⟨3, n, dl, bs⟩ = (r.back r.size, noOut, true) := by simp [SR.call, hd, hs]
        rw [e]; exact sc_unrune R A c r n dl bs Ab kb w h hd hs
    · have e : r.call ⟨3, n, dl, bs⟩ = (r, noOut, false) := by simp [SR.call, hd]
      rw [e]; exact sc_doubt3 R A c r n dl bs Ab kb w h hd
  · by_cases hn : n < 0
    · have e : r.call ⟨4, n, dl, bs⟩ = ({ r with doubt := r.doubt || r.bytes }, ⟨[], 0, 4⟩, true) := by simp [SR.call, hn]
      rw [e]; exact sc_neg4 R A c r n dl bs Ab kb w h hn
    · obtain ⟨k, rfl⟩ : ∃ k : Nat, n = k := ⟨n.toNat, by omega⟩
      have e : r.call ⟨4, (k : Int), dl, bs⟩ = (r.on 0, ⟨r.rest.take k, 0, ended (decide (r.rest.length < k))⟩, decide ((k : Int) ≤ 16)) := by
        simp only [SR.call, if_neg hn]
        rfl
      rw [e]
      by_cases hl : r.rest.length < k
      · have := sc_peek_all R A c r dl bs Ab kb w h k hl
        rw [List.take_length] at this
        have e2 : r.rest.take k = r.rest := List.take_of_length_le (by omega)
        rw [e2, decide_eq_true hl]
        exact this
      · rw [decide_eq_false hl]
        exact sc_peek_some R A c r dl bs Ab kb w h k (by omega)
  · by_cases hn : n < 0
    · have e : r.call ⟨5, n, dl, bs⟩ = ({ r with doubt := r.doubt || r.bytes }, ⟨[], 0, 4⟩, true) := by simp [SR.call, hn]
      rw [e]; exact sc_neg5 R A c r n dl bs Ab kb w h hn
    · by_cases h0 : n = 0
      · have e : r.call ⟨5, n, dl, bs⟩ = ({ r with doubt := r.doubt || r.bytes }, noOut, true) := by simp [SR.call, h0]
        rw [e]; exact sc_zero5 R A c r n dl bs Ab kb w h h0
      · obtain ⟨k, rfl⟩ : ∃ k : Nat, n = k := ⟨n.toNat, by omega⟩
        have e : r.call ⟨5, (k : Int), dl, bs⟩ = (r.on (min k r.rest.length), ⟨[], (min k r.rest.length : Nat), ended (decide (r.rest.length < k))⟩, true) := by
          simp only [SR.call, if_neg hn, if_neg h0]
          rfl
        rw [e]
        by_cases hl : r.rest.length < k
        · rw [decide_eq_true hl, Nat.min_eq_right (by omega)]
          exact sc_disc_all R A c r dl bs Ab kb w h k (by omega) hl
        · rw [decide_eq_false hl, Nat.min_eq_left (by omega)]
          exact sc_disc_some R A c r dl bs Ab kb w h k (by omega) (by omega)
  · have e : r.call ⟨6, n, dl, bs⟩ = (r.read (lineL r.rest dl).1.length 0, ⟨(lineL r.rest dl).1, 0, ended (lineL r.rest dl).2⟩, true) := by simp [SR.call]
    rw [e]; exact sc_line6 R A c r n dl bs Ab kb w h
  · have e : r.call ⟨7, n, dl, bs⟩ = (r.read (lineL r.rest dl).1.length 0, ⟨(lineL r.rest dl).1, 0, ended (lineL r.rest dl).2⟩, true) := by simp [SR.call]
    rw [e]; exact sc_line7 R A c r n dl bs Ab kb w h
end Go.Proofs.YtancmlapnhccdaaDoor
