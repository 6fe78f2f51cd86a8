/- The thin package's sink: its method Write takes all that is written to it. -/
import Derived.Test.YtancmlapnhccdaaDoorEnv
import Derived.Test.YtancmlapnhccdaaDoorApp
namespace Go.Proofs.YtancmlapnhccdaaDoor
open Go.RowKit

/-- a sink at block K; what it has lies in the row v of the call's own, from block N on -/
def SnkAt (w : World) (K N : Nat) (v : Value) (got : List UInt8) : Prop :=
  Blk w K 63 #[v] ∧ w.ownsRow N 5 1 v got.length (bvs got)

theorem own_slice {w : World} {N n size : Nat} {e : TypeId} {v : Value} {xs : List Value} (h : w.ownsRow N e size v n xs) : ∃ a c, v = .slice a n c := by
  rcases h.2 with ⟨rfl, rfl⟩ | ⟨g, cap, cur, rfl, _⟩
  · exact ⟨none, 0, rfl⟩
  · exact ⟨_, cap, rfl⟩

/-- there is room: a bound behind a name -/
def Room (n : Nat) : Prop := n ≤ 1000000000
theorem Room.len {n : Nat} (h : Room n) : n ≤ maxLen := by unfold Room at h; simp only [maxLen]; omega
theorem Room.bytes {n : Nat} (h : Room n) (k : Nat) (hk : k ≤ 1000) : n * k ≤ 140737488355328 := by
  unfold Room at h
  have := Nat.mul_le_mul h hk
  omega
theorem Room.mono {n m : Nat} (h : Room n) (hm : m ≤ n) : Room m := Nat.le_trans hm h

/-- what a sink may write -/
def snkX (K : Nat) (v : Value) : Nat → Prop := fun k => k = K ∨ v.ownBlock = some k

theorem Tryd.info5 : (Tryd.prog.info? 5).map (fun i => (i.zero, i.size, i.bytes)) = some (some (.int .u8 0), 1, 1) := by kernel_rfl

/-- the sink's answer: all has been taken -/
def SnkGave (K N : Nat) (v : Value) (got new : List UInt8) (w : World) (e : Ending) (w' : World) : Prop :=
  e = .returned (.tuple #[.int .i64 (new.length : Nat), .nilIface]) ∧ ∃ v', SnkAt w' K N v' (got ++ new) ∧ (v'.ownBlock = v.ownBlock ∨ v'.ownBlock = some w.heap.size) ∧ Keep (snkX K v) w w'

set_option maxHeartbeats 1000000 in
theorem snk98 (K N : Nat) (v : Value) (got new : List UInt8) (A : Option Addr) (B c : Nat) (w : World) (h : SnkAt w K N v got) (hr : Reads w B 1 A new.length (bvs new)) (hb : Room (got.length + new.length)) (hN : N ≤ w.heap.size) :
    Calls Tryd.prog 98 #[.pointer (some ⟨K, 0, none⟩), .slice A new.length c] w (SnkGave K N v got new w) := by
  obtain ⟨i0, hi0, hz0, hz1, hz2⟩ := info_parts Tryd.info5
  obtain ⟨hK, ho⟩ := h
  obtain ⟨a0, c0, rfl⟩ := own_slice ho
  have hne := own_blk_ne ho hK (by decide)
  have c1 := hK.cell 0
  simp at c1
  have HH := Lib.hid (And.intro hK (And.intro ho (And.intro hr (And.intro hne (bvs_one new))))); clear hK ho hr hne
  have HI := Lib.hid (And.intro hi0 (And.intro hz0 (And.intro hz1 hz2))); clear hi0 hz0 hz1 hz2
  go_enter Tryd.func98, Tryd.ntmps98
  go_wp2_with (at_builtin; refine wpList_append_any _ rfl (.tmp 10) (.tmp 11) _ rfl N 5 i0 _ 1 1 Tryd.underlying25 HI.out.1 HI.out.2.1 HI.out.2.2.1 HI.out.2.2.2 rfl (by omega) (.slice a0 got.length c0) got.length (bvs got) rfl HH.out.2.1 B A new.length c (bvs new) rfl HH.out.2.2.1 HH.out.2.2.2.2 hb.len (hb.bytes 1 (by omega)) hN ?_; intro v1 w1 hown1 hg1 hat1; obtain ⟨a1, k1, hv1⟩ := own_slice hown1; subst hv1; have hb1 := HH.out.1.grown hg1 (Ne.symm HH.out.2.2.2.1); have e1 := hb1.cell 0; have e2 := hb1.frozen 0; simp at e1; have H1 := Lib.hid (And.intro hown1 (And.intro hg1 (And.intro hat1 hb1))); clear hown1 hg1 hat1 hb1)
  go_ret2
  obtain ⟨hown1, hg1, hat1, hb1⟩ := H1.out
  have hne1 : (Value.slice a1 (got.length + new.length) k1).ownBlock ≠ some K := by
    rcases hat1 with e | e
    · rw [e]; exact HH.out.2.2.2.1
    · rw [e]; have := HH.out.1.lt; intro h; injection h; omega
  have hk1 : Keep (snkX K (Value.slice a0 got.length c0)) w w1 := (Keep.refl _ w).grown hg1 (fun k hk => .inl (.inr hk))
  refine ⟨rfl, _, ⟨?_, ?_⟩, hat1, hk1.setCell (p := ⟨K, 0, none⟩) (.inl (.inl rfl)) _⟩
  · have := hb1.set_ 0 (.slice a1 (got.length + new.length) k1)
    simpa using this
  · have := own_keep hown1 ((Keep.refl (· = K) w1).setCell (p := ⟨K, 0, none⟩) (.inl rfl) (.slice a1 (got.length + new.length) k1)) (fun k hk e => by subst e; exact hne1 hk)
    rw [List.length_append, bvs_append]
    exact this
end Go.Proofs.YtancmlapnhccdaaDoor
