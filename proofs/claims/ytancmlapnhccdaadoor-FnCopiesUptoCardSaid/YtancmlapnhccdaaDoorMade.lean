/- The thin package's made: a reader over pieces and a writer into a sink. -/
import Derived.Test.YtancmlapnhccdaaDoorNew
namespace Go.Proofs.YtancmlapnhccdaaDoor
open Go.RowKit

/-- a slice of pieces that lies below B -/
def PiecesAt (w : World) (B : Nat) (A : Option Addr) (ps : List (List UInt8)) : Prop :=
  ∃ vs : List Value, Reads w B 1 A ps.length vs ∧ ∀ (j : Nat) (p : List UInt8), ps[j]? = some p → ∃ v, vs[j]? = some v ∧ PieceAt w B v p

theorem PiecesAt.below {w w' : World} {B : Nat} {A : Option Addr} {ps : List (List UInt8)} (h : PiecesAt w B A ps) (hb : Below B w w') : PiecesAt w' B A ps := by
  obtain ⟨vs, h1, h2⟩ := h
  refine ⟨vs, h1.below hb, fun j p hj => ?_⟩
  obtain ⟨v, hv, hp⟩ := h2 j p hj
  exact ⟨v, hv, hp.below hb⟩
theorem PieceAt.more {w : World} {B B' : Nat} {v : Value} {p : List UInt8} (h : PieceAt w B v p) (hB : B ≤ B') : PieceAt w B' v p := by
  obtain ⟨A, l, c, rfl, h1, h2, h3, h4⟩ := h
  exact ⟨A, l, c, rfl, h1, h2, h3, h4.more hB⟩
theorem PiecesAt.more {w : World} {B B' : Nat} {A : Option Addr} {ps : List (List UInt8)} (h : PiecesAt w B A ps) (hB : B ≤ B') : PiecesAt w B' A ps := by
  obtain ⟨vs, h1, h2⟩ := h
  refine ⟨vs, h1.more hB, fun j p hj => ?_⟩
  obtain ⟨v, hv, hp⟩ := h2 j p hj
  exact ⟨v, hv, hp.more hB⟩

/-- a writer of which nothing is in the buffer -/
def wtCells (WB K n k : Nat) : Array Value := #[.nilIface, .slice (some ⟨WB, 0, none⟩) n n, .int .i64 (k : Nat), .iface 61 (.pointer (some ⟨K, 0, none⟩))]

structure MadeAt (E : Nat → Addr) (n : Nat) (ps : List (List UInt8)) (K : Nat) (w : World) (RW W WB : Nat) (L : RL) (w' : World) : Prop where
  B : L.B = w.heap.size
  rdr : RdrAt w' E L (newReader (rsize n) ps)
  rw : Blk w' RW 74 #[.pointer (some ⟨L.R, 0, none⟩), .pointer (some ⟨W, 0, none⟩)]
  wtr : Blk w' W 121 (wtCells WB K (wsize n) 0)
  wbuf : Blk w' WB 5 (bvs (zeros (wsize n))).toArray
  below : Below w.heap.size w w'
  nW : ¬ rdX L W
  nWB : ¬ rdX L WB
  nRW : ¬ rdX L RW
  bW : w.heap.size ≤ W
  bWB : w.heap.size ≤ WB
  bRW : w.heap.size ≤ RW

def Made32 (E : Nat → Addr) (n : Nat) (ps : List (List UInt8)) (K : Nat) (w : World) (e : Ending) (w' : World) : Prop :=
  ∃ RW W WB L, e = .returned (.pointer (some ⟨RW, 0, none⟩)) ∧ MadeAt E n ps K w RW W WB L w'

theorem Blk.newAt (w : World) (t : TypeId) (cs : Array Value) {g : Nat} (hg : g = w.heap.size) : Blk (w.alloc (.cells cs t)) g t cs := by subst hg; exact Blk.new w t cs

/-- the six blocks that made lays behind the row of pieces -/
def madeWorld (w1 : World) (a1 : Option Addr) (m k1 n N K : Nat) : World :=
  (((((w1.alloc (.cells #[.slice a1 m k1] 81)).alloc (.cells #[.slice (some ⟨w1.heap.size + 2, 0, none⟩) n n, .iface 79 (.pointer (some ⟨w1.heap.size, 0, none⟩)), .int .i64 0, .int .i64 0, .nilIface, .int .i64 (-1), .int .i64 (-1)] 112)).alloc
    (.cells (bvs (zeros n)).toArray 5)).alloc (.cells (bvs (zeros N)).toArray 5)).alloc (.cells #[.nilIface, .slice (some ⟨w1.heap.size + 3, 0, none⟩) N N, .int .i64 0, .iface 61 (.pointer (some ⟨K, 0, none⟩))] 121)).alloc
    (.cells #[.pointer (some ⟨w1.heap.size + 1, 0, none⟩), .pointer (some ⟨w1.heap.size + 4, 0, none⟩)] 74)

theorem made_close {E : Nat → Addr} {n K : Nat} (hn : n ≤ 255) {ps : List (List UInt8)} {w w1 : World} {a1 : Option Addr} {k1 : Nat} {vs : List Value} (hE : Env w w.heap.size E)
    (hps : ∀ (j : Nat) (p : List UInt8), ps[j]? = some p → ∃ v, vs[j]? = some v ∧ PieceAt w w.heap.size v p)
    (hown : w1.ownsRow w.heap.size 25 1 (.slice a1 ps.length k1) ps.length vs) (hb : Below w.heap.size w w1) (ha : (Value.slice a1 ps.length k1).ownBlock ≠ none) :
    ∃ L, MadeAt E n ps K w (w1.heap.size + 5) (w1.heap.size + 4) (w1.heap.size + 3) L (madeWorld w1 a1 ps.length k1 (rsize n) (wsize n) K) := by
  rcases hown.2 with ⟨e, _⟩ | ⟨g, cap, cur, e, hbg, hg, hnc, hcm, hcs, htk⟩
  · rw [e] at ha; exact absurd rfl ha
  have hw1 := hb.size
  obtain ⟨rfl, rfl⟩ : a1 = some ⟨g, 0, none⟩ ∧ k1 = cap := by injection e with e1 e2 e3; exact ⟨e1, e3⟩
  have hgl : g < w1.heap.size := (Array.getElem?_eq_some_iff.1 hg).1
  obtain ⟨row⟩ := cur
  have hgB : Blk w1 g 25 row.toArray := hg
  simp only [Nat.mul_one, List.size_toArray] at hcs htk
  have hbel : Below w.heap.size w (madeWorld w1 (some ⟨g, 0, none⟩) ps.length k1 (rsize n) (wsize n) K) := by
    unfold madeWorld
    exact (((((hb.alloc (by omega) _).alloc (by simp; omega) _).alloc (by simp; omega) _).alloc (by simp; omega) _).alloc (by simp; omega) _).alloc (by simp; omega) _
  have bS : Blk (madeWorld w1 (some ⟨g, 0, none⟩) ps.length k1 (rsize n) (wsize n) K) w1.heap.size 81 #[.slice (some ⟨g, 0, none⟩) ps.length k1] :=
    (((((Blk.newAt w1 81 _ rfl).alloc _).alloc _).alloc _).alloc _).alloc _
  have bR : Blk (madeWorld w1 (some ⟨g, 0, none⟩) ps.length k1 (rsize n) (wsize n) K) (w1.heap.size + 1) 112 _ :=
    ((((Blk.newAt _ 112 _ (by simp)).alloc _).alloc _).alloc _).alloc _
  have bRB : Blk (madeWorld w1 (some ⟨g, 0, none⟩) ps.length k1 (rsize n) (wsize n) K) (w1.heap.size + 2) 5 _ :=
    (((Blk.newAt _ 5 _ (by simp)).alloc _).alloc _).alloc _
  have bWB : Blk (madeWorld w1 (some ⟨g, 0, none⟩) ps.length k1 (rsize n) (wsize n) K) (w1.heap.size + 3) 5 _ :=
    ((Blk.newAt _ 5 _ (by simp)).alloc _).alloc _
  have bW : Blk (madeWorld w1 (some ⟨g, 0, none⟩) ps.length k1 (rsize n) (wsize n) K) (w1.heap.size + 4) 121 _ :=
    (Blk.newAt _ 121 _ (by simp)).alloc _
  have bRW : Blk (madeWorld w1 (some ⟨g, 0, none⟩) ps.length k1 (rsize n) (wsize n) K) (w1.heap.size + 5) 74 _ := Blk.newAt _ 74 _ (by simp)
  have bP : Blk (madeWorld w1 (some ⟨g, 0, none⟩) ps.length k1 (rsize n) (wsize n) K) g 25 row.toArray :=
    (((((hgB.alloc _).alloc _).alloc _).alloc _).alloc _).alloc _
  have hlen : (newReader (rsize n) ps).buf.length = rsize n := zeros_length _
  refine ⟨⟨w1.heap.size + 1, w1.heap.size + 2, w1.heap.size, g, w.heap.size⟩, ⟨rfl, ⟨?_, bRB, ?_, ?_, by simp; omega, by simp; omega, by simp; omega, hbg, hbel.size, hE.below hbel⟩, bRW, bW, bWB, hbel, ?_, ?_, ?_, by omega, by omega, by omega⟩⟩
  · have e2 : rdCells E ⟨w1.heap.size + 1, w1.heap.size + 2, w1.heap.size, g, w.heap.size⟩ (newReader (rsize n) ps) = #[.slice (some ⟨w1.heap.size + 2, 0, none⟩) (rsize n) (rsize n), .iface 79 (.pointer (some ⟨w1.heap.size, 0, none⟩)), .int .i64 0, .int .i64 0, .nilIface, .int .i64 (-1), .int .i64 (-1)] := by
      simp only [rdCells, hlen]; rfl
    rw [e2]; exact bR
  · refine ⟨some ⟨g, 0, none⟩, k1, 0, row, bS, bP, hnc, hcm, by show 0 + ps.length ≤ row.length; omega, fun _ => rfl, fun j p hj => ?_⟩
    obtain ⟨v, hv, hpc⟩ := hps j p hj
    refine ⟨v, ?_, hpc.below hbel⟩
    rw [← htk, List.getElem?_take] at hv
    split at hv
    · rw [Nat.zero_add]; exact hv
    · cases hv
  · exact ⟨Nat.le_refl _, Nat.zero_le _, by rw [hlen]; unfold rsize; omega, by rw [hlen]; unfold rsize; omega, by simp [newReader], by simp [newReader], by simp [newReader], by simp [newReader]⟩
  · rintro (e | e | e | e) <;> simp at e <;> omega
  · rintro (e | e | e | e) <;> simp at e <;> omega
  · rintro (e | e | e | e) <;> simp at e <;> omega

theorem Tryd.info25 : (Tryd.prog.info? 25).map (fun i => (i.zero, i.size, i.bytes)) = some (some (.slice none 0 0), 1, 24) := by kernel_rfl

set_option maxHeartbeats 1000000 in
theorem made32 (E : Nat → Addr) (n : Nat) (hn : n ≤ 255) (A : Option Addr) (c : Nat) (ps : List (List UInt8)) (K : Nat) (w : World) (hE : Env w w.heap.size E) (hp : PiecesAt w w.heap.size A ps) (hroom : Room ps.length) :
    Calls Tryd.prog 32 #[.int .u8 (n : Nat), .slice A ps.length c, .pointer (some ⟨K, 0, none⟩)] w (Made32 E n ps K w) := by
  obtain ⟨vs, hr, hps⟩ := hp
  obtain ⟨i0, hi0, hz0, hz1, hz2⟩ := info_parts Tryd.info25
  have HI := Lib.hid (And.intro hi0 (And.intro hz0 (And.intro hz1 hz2))); clear hi0 hz0 hz1 hz2
  have hone : ∀ u ∈ vs, u.oneCell' = true := by
    intro u hu
    obtain ⟨j, hj, rfl⟩ := List.mem_iff_getElem.1 hu
    have hl := hr.1
    obtain ⟨v, hv, A', l', c', rfl, _⟩ := hps j (ps[j]'(by omega)) (List.getElem?_eq_getElem _)
    rw [List.getElem?_eq_getElem hj] at hv
    injection hv with hv
    rw [hv]; rfl
  have hr1 : Reads (w.alloc (.cells #[] 25)) w.heap.size 1 A ps.length vs := hr.alloc (Nat.le_refl _) _
  have hown : (w.alloc (.cells #[] 25)).ownsRow w.heap.size 25 1 (.slice (some ⟨w.heap.size, 0, none⟩) 0 0) 0 [] := World.ownsRow_made w #[] 0 (Nat.le_refl _) (by simp [maxLen]) (by simp)
  have hrm : Room (0 + ps.length) := by simpa using hroom
  have hb1 : w.heap.size ≤ (w.alloc (.cells #[] 25)).heap.size := by simp
  have HH := Lib.hid (And.intro hr1 (And.intro hown (And.intro hone (And.intro hps (And.intro hE (And.intro hrm hb1)))))); clear hr1 hown hone hps hr hE hrm hb1 hroom
  go_enter Tryd.func32, Tryd.ntmps32
  go_wp2_with (at_builtin; refine wpList_append_any _ rfl (.tmp 8) (.tmp 9) _ rfl w.heap.size 25 i0 _ 1 24 Tryd.underlying22 HI.out.1 HI.out.2.1 HI.out.2.2.1 HI.out.2.2.2 rfl (by omega) (.slice (some ⟨w.heap.size, 0, none⟩) 0 0) 0 [] rfl HH.out.2.1 w.heap.size A ps.length c vs rfl HH.out.1 HH.out.2.2.1 HH.out.2.2.2.2.2.1.len (HH.out.2.2.2.2.2.1.bytes 24 (by omega)) HH.out.2.2.2.2.2.2 ?_; intro v1 w1 hown1 hg1 hat1; obtain ⟨a1, k1, hv1⟩ := own_slice hown1; subst hv1; have H1 := Lib.hid (And.intro hown1 (And.intro hg1 hat1)); clear hown1 hg1 hat1)
  refine (newReader46 w1.heap.size n _ hn).mono ?_
  rintro e w2 ⟨rfl, rfl⟩
  go_wp2_with fail
  refine (newWriter47 K n _ hn).mono ?_
  rintro e w3 ⟨rfl, rfl⟩
  go_wp2_with fail
  refine (newRW45 _ _ _).mono ?_
  rintro e w4 ⟨rfl, rfl⟩
  go_wp2_with fail
  go_ret
  obtain ⟨hown1, hg1, hat1⟩ := H1.out
  simp only [Nat.zero_add, List.nil_append] at hown1 hat1
  have hb1 : Below w.heap.size w w1 := ((Below.refl _ _).alloc (Nat.le_refl _) _).grown hg1 (by simp) (fun k hk => by simp [Value.ownBlock] at hk; omega)
  have hne : (Value.slice a1 ps.length k1).ownBlock ≠ none := by
    rcases hat1 with e | e <;> rw [e] <;> simp [Value.ownBlock]
  obtain ⟨L, hL⟩ := made_close (K := K) hn HH.out.2.2.2.2.1 HH.out.2.2.2.1 hown1 hb1 hne
  exact ⟨w1.heap.size + 5, w1.heap.size + 4, w1.heap.size + 3, L, rfl, hL⟩
end Go.Proofs.YtancmlapnhccdaaDoor
