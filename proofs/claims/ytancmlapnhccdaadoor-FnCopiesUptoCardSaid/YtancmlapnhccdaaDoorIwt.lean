/- The thin package's WriteTo: all pieces, their length, no error. -/
import Derived.Test.YtancmlapnhccdaaDoorJoin
import Derived.Test.YtancmlapnhccdaaDoorWto
namespace Go.Proofs.YtancmlapnhccdaaDoor
open Go.RowKit

def Wt25 (all : List UInt8) (w : World) (e : Ending) (w' : World) : Prop :=
  ∃ v, e = .returned (.tuple #[v, .int .i64 (all.length : Nat), .int .i64 0]) ∧ w'.ownsRow w.heap.size 5 1 v all.length (bvs all) ∧ Below w.heap.size w w'

theorem own_base {w : World} {base base' : Nat} {e : TypeId} {size n : Nat} {v : Value} {xs : List Value} (h : w.ownsRow base e size v n xs) (hb : base' ≤ base) : w.ownsRow base' e size v n xs := by
  refine ⟨h.1, ?_⟩
  rcases h.2 with h | ⟨g, cap, cur, rfl, h1, h2⟩
  · exact .inl h
  · exact .inr ⟨g, cap, cur, rfl, Nat.le_trans hb h1, h2⟩
theorem below_drewN {B : Nat} {w w' : World} (h : Below B w w') (n : Nat) : Below B w (w'.drewN n) := ⟨h.os, h.tape, h.output, h.size, h.block⟩
theorem Env.more {w : World} {B B' : Nat} {E : Nat → Addr} (h : Env w B E) (hB : B ≤ B') : Env w B' E := ⟨h.at_, h.row, h.ne, fun g hg => Nat.lt_of_lt_of_le (h.lt g hg) hB, Nat.le_trans h.five hB⟩
theorem snk_new (w : World) (N : Nat) : SnkAt (w.alloc (.cells #[.slice none 0 0] 63)) w.heap.size N (.slice none 0 0) [] :=
  ⟨Blk.new w 63 _, rfl, .inl ⟨rfl, rfl⟩⟩

set_option maxHeartbeats 1000000 in
theorem writeTo25 (E : Nat → Addr) (n : Nat) (hn : n ≤ 255) (A : Option Addr) (c : Nat) (ps : List (List UInt8)) (w : World) (hE : Env w w.heap.size E) (hp : PiecesAt w w.heap.size A ps) (hroom : Room (ps.flatten.length + 255)) (hl : Room ps.length) :
    Calls Tryd.prog 25 #[.int .u8 (n : Nat), .slice A ps.length c] w (Wt25 ps.flatten w) := by
  have hb0 : Below w.heap.size w (w.alloc (.cells #[.slice none 0 0] 63)) := (Below.refl _ _).alloc (Nat.le_refl _) _
  have hsz : w.heap.size ≤ (w.alloc (.cells #[.slice none 0 0] 63)).heap.size := by simp
  have hE1 : Env (w.alloc (.cells #[.slice none 0 0] 63)) (w.alloc (.cells #[.slice none 0 0] 63)).heap.size E := by
    have := hE.below hb0
    exact ⟨this.at_, this.row, this.ne, fun g hg => Nat.lt_of_lt_of_le (this.lt g hg) hsz, Nat.le_trans this.five hsz⟩
  have hp1 := (hp.below hb0).more hsz
  have HE := Lib.hid (And.intro hE1 (And.intro hp1 (And.intro hb0 (And.intro hsz (And.intro hl hroom))))); clear hE hp hE1 hp1 hb0 hsz hl hroom
  obtain ⟨all, hall⟩ : ∃ all, all = ps.flatten := ⟨_, rfl⟩
  rw [← hall]
  go_enter Tryd.func25, Tryd.ntmps25
  go_wp2_with fail
  refine (made32 E n hn A c ps w.heap.size _ HE.out.1 HE.out.2.1 HE.out.2.2.2.2.1).mono ?_
  rintro e w1 ⟨RW, W, WB, L, rfl, hm⟩
  have hbm := HE.out.2.2.1.trans (hm.below.mono HE.out.2.2.2.1)
  have c0 : (w1.alloc (.cells #[.slice none 0 0] 63)).cell? ⟨RW, 0, none⟩ = some (.pointer (some ⟨L.R, 0, none⟩)) := (hm.rw.alloc _).cell 0
  have hs2 := snk_new w1 w1.heap.size
  have hk2 := (Keep.refl (fun _ => False) w1).alloc (.cells #[.slice none 0 0] 63)
  have hr2 := hm.rdr.keep hk2 (fun _ h => h.elim) (fun _ h => h.elim)
  have hkn : ¬ rdX L w1.heap.size := by
    have l1 := hm.rdr.blk.lt
    have l2 := hm.rdr.buf.lt
    obtain ⟨A, c, o, row, q1, q2, _⟩ := hm.rdr.src
    have l3 := q1.lt
    have l4 := q2.lt
    rintro (e | e | e | e) <;> omega
  have ha : Apart L w1.heap.size w1.heap.size (.slice none 0 0) := ⟨hkn, hm.rdr.size, fun k hk => by simp [Value.ownBlock] at hk, hm.rdr.size⟩
  have HM := Lib.hid (And.intro hm (And.intro hbm (And.intro hs2 (And.intro hr2 ha)))); clear hm hbm hs2 hr2 ha hk2 hkn
  go_wp2_with fail
  refine (writeTo34 E L (newReader (rsize n) ps) w1.heap.size w1.heap.size (.slice none 0 0) [] _ HM.out.2.2.2.1 HM.out.2.2.1 HM.out.2.2.2.2 (by simp) rfl ?_).mono ?_
  · have := HE.out.2.2.2.2.2
    simpa [newReader] using this
  rintro e w2 ⟨rfl, ⟨v, hs, hv⟩, hk⟩
  have hall2 : (newReader (rsize n) ps).src.flatten = all := hall.symm
  rw [hall2] at hs ⊢
  rw [List.nil_append] at hs
  obtain ⟨a, cc, rfl⟩ := own_slice hs.2
  clear hall hall2
  have c1 : w2.cell? ⟨w1.heap.size, 0, none⟩ = some (.slice a all.length cc) := hs.1.cell 0
  have HS := Lib.hid (And.intro hs hk); clear hs hk hv c0
  go_wp2_with fail
  go_quiet (first | (go_at_call 35; refine Calls.quiet_of_same ((code_0 _).mono fun _ _ h => ⟨h.1, h.2.symm⟩)))
  go_wp2_with fail
  go_ret3
  have hbm := HM.out.2.1
  refine ⟨_, rfl, ?_, ?_⟩
  · have := own_keep HS.out.1.2 ((Keep.refl (fun _ => False) w2).drewN nq) (fun _ _ h => h)
    exact own_base this hbm.size
  · have hLB : L.B = w.heap.size + 1 := by rw [HM.out.1.B]; simp
    have hb2 : Below w.heap.size (w1.alloc (.cells #[.slice none 0 0] 63)) w2 := HS.out.2.below (fun k hk => by
      rcases hk with h | h | h
      · have := rdX_ge HM.out.1.rdr k h; omega
      · rw [h]; exact hbm.size
      · simp [Value.ownBlock] at h) (by simp; have := hbm.size; omega)
    exact below_drewN ((hbm.alloc hbm.size _).trans hb2) _
end Go.Proofs.YtancmlapnhccdaaDoor
