/- bufio.NewReaderSize, NewWriterSize and NewReadWriter over the thin package's source and sink. -/
import Derived.Test.YtancmlapnhccdaaDoorFill
import Derived.Test.YtancmlapnhccdaaDoorSnk
import Derived.Laws.MakeOwn
namespace Go.Proofs.YtancmlapnhccdaaDoor
open Go.RowKit

/-- n zeros, behind a name -/
def zeros (n : Nat) : List UInt8 := List.replicate n 0
theorem zeros_length (n : Nat) : (zeros n).length = n := by simp [zeros]

theorem made_zero (n : Nat) : madeCells (Value.int .u8 0).cells (n * 1) = (bvs (zeros n)).toArray := by
  unfold zeros
  apply Array.ext
  · simp [madeCells, bvs]
  · intro i h1 h2
    simp [madeCells, bvs, bv, Value.cells, Nat.mod_one]

/-- make([]byte, n) -/
theorem make_bytes (n : Nat) (hn : n ≤ 5000) (w : World) :
    (Instr.makeSlice 25 (.int .i64 (n : Int)) (.int .i64 (n : Int))).run Tryd.prog w = .ok (.slice (some ⟨w.heap.size, 0, none⟩) n n) (w.alloc (.cells (bvs (zeros n)).toArray 5)) := by
  obtain ⟨i0, hi0, hz0, hz1, hz2⟩ := info_parts Tryd.info5
  have h := run_make (P := Tryd.prog) w 25 5 i0 (.int .u8 0) Tryd.underlying25 hi0 hz0 .i64 .i64 (n : Int) (n : Int) (by omega) (Int.le_refl _) (by rw [hz2]; omega) (by omega)
  rw [hz1, Int.toNat_natCast, made_zero] at h
  exact h

/-- the sizes of the two buffers, behind names -/
def rsize (n : Nat) : Nat := max n 16
def wsize (n : Nat) : Nat := if n = 0 then 4096 else n

def newReader (n : Nat) (ps : List (List UInt8)) : RS := { buf := zeros n, r := 0, w := 0, eof := false, lb := -1, lr := -1, src := ps }

theorem assert_71 (S : Nat) (w : World) : (Instr.typeAssert (.iface 79 (.pointer (some ⟨S, 0, none⟩))) 110 71 true).run Tryd.prog w = .ok (.tuple #[.pointer none, .bool false]) w := by kernel_rfl
theorem assert_72 (S : Nat) (w : World) : (Instr.typeAssert (.iface 61 (.pointer (some ⟨S, 0, none⟩))) 108 72 true).run Tryd.prog w = .ok (.tuple #[.pointer none, .bool false]) w := by kernel_rfl

set_option maxHeartbeats 1000000 in
theorem newReader46 (S n : Nat) (w : World) (hn : n ≤ 255) :
    Calls Tryd.prog 46 #[.iface 79 (.pointer (some ⟨S, 0, none⟩)), .int .i64 (n : Nat)] w fun e w' => e = .returned (.pointer (some ⟨w.heap.size, 0, none⟩)) ∧
      (w.alloc (.cells #[.slice (some ⟨w.heap.size + 1, 0, none⟩) (rsize n) (rsize n), .iface 79 (.pointer (some ⟨S, 0, none⟩)), .int .i64 0, .int .i64 0, .nilIface, .int .i64 (-1), .int .i64 (-1)] 112)).alloc (.cells (bvs (zeros (rsize n))).toArray 5) = w' := by
  have ta := fun w => assert_71 S w
  by_cases h : n < 16
  · have e : rsize n = 16 := by unfold rsize; omega
    rw [e]
    have hmx : (n : Int) < 16 := by omega
    have hmk : ∀ w, (Instr.makeSlice 25 (.int .i64 16) (.int .i64 16)).run Tryd.prog w = .ok (.slice (some ⟨w.heap.size, 0, none⟩) 16 16) (w.alloc (.cells (bvs (zeros 16)).toArray 5)) := fun w => make_bytes 16 (by omega) w
    clear e
    go_enter Tryd.func46, Tryd.ntmps46
    go_wp2
    go_end0
    go_wp2
    go_ret
    exact ⟨rfl, rfl⟩
  · have e : rsize n = n := by unfold rsize; omega
    rw [e]
    have hmx : ¬ (n : Int) < 16 := by omega
    have hmk := make_bytes n (by omega)
    clear e
    go_enter Tryd.func46, Tryd.ntmps46
    go_wp2
    go_end0
    go_wp2
    go_ret
    exact ⟨rfl, rfl⟩

set_option maxRecDepth 100000 in
set_option maxHeartbeats 1000000 in
theorem newWriter47 (K n : Nat) (w : World) (hn : n ≤ 255) :
    Calls Tryd.prog 47 #[.iface 61 (.pointer (some ⟨K, 0, none⟩)), .int .i64 (n : Nat)] w fun e w' => e = .returned (.pointer (some ⟨w.heap.size + 1, 0, none⟩)) ∧
      (w.alloc (.cells (bvs (zeros (wsize n))).toArray 5)).alloc (.cells #[.nilIface, .slice (some ⟨w.heap.size, 0, none⟩) (wsize n) (wsize n), .int .i64 0, .iface 61 (.pointer (some ⟨K, 0, none⟩))] 121) = w' := by
  have ta := fun w => assert_72 K w
  by_cases h0 : n = 0
  · subst h0
    rw [show wsize 0 = 4096 from rfl]
    have hmk : ∀ w, (Instr.makeSlice 25 (.int .i64 4096) (.int .i64 4096)).run Tryd.prog w = .ok (.slice (some ⟨w.heap.size, 0, none⟩) 4096 4096) (w.alloc (.cells (bvs (zeros 4096)).toArray 5)) := fun w => make_bytes 4096 (by omega) w
    go_enter Tryd.func47, Tryd.ntmps47
    go_wp2
    go_ret
    exact ⟨rfl, rfl⟩
  · have hmk := make_bytes n (by omega)
    have hz : ¬ ((n : Int) ≤ 0) := by omega
    rw [show wsize n = n from if_neg h0]
    go_enter Tryd.func47, Tryd.ntmps47
    go_wp2
    go_ret
    exact ⟨rfl, rfl⟩

set_option maxHeartbeats 1000000 in
theorem newRW45 (x y : Nat) (w : World) :
    Calls Tryd.prog 45 #[.pointer (some ⟨x, 0, none⟩), .pointer (some ⟨y, 0, none⟩)] w fun e w' => e = .returned (.pointer (some ⟨w.heap.size, 0, none⟩)) ∧ w.alloc (.cells #[.pointer (some ⟨x, 0, none⟩), .pointer (some ⟨y, 0, none⟩)] 74) = w' := by
  go_enter Tryd.func45, Tryd.ntmps45
  go_wp2
  go_ret
  exact ⟨rfl, rfl⟩
end Go.Proofs.YtancmlapnhccdaaDoor
