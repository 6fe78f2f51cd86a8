/- spec.Encoded, IsReading, IsWriting, Written. -/
import Derived.Test.YtancmlapnhccdaaDoorPla
import Derived.Test.YtancmlapnhccdaaDoorSpa
namespace Go.Proofs.YtancmlapnhccdaaDoor
open Go.RowKit

/-- a slice of bytes in a block of its own -/
def Bytes39 (l : List UInt8) (w : World) (e : Ending) (w' : World) : Prop := e = .returned (.slice (some ⟨w.heap.size, 0, none⟩) l.length l.length) ∧ w' = w.alloc (.cells (bvs l).toArray 5)
theorem enc_cells (x : Int) {zs : List Int} (h : Lib.encodeRuneZ x = zs) : bvs (encM x) = zs.map (Value.int .u8) ∧ (encM x).length = zs.length := by
  have := encM_cells x
  unfold Lib.runeCells at this
  rw [h] at this
  refine ⟨this.symm, ?_⟩
  unfold encM Lib.encodeRune
  rw [h, List.length_map]
theorem enc_bad : encM 65533 = [239, 191, 189] := by
  unfold encM Lib.encodeRune
  rw [Lib.encodeRuneZ_three (by omega)]
  rfl
theorem enc_bad' {x : Int} (h : x < 0 ∨ (55296 ≤ x ∧ x ≤ 57343) ∨ 1114111 < x) : encM x = [239, 191, 189] := by
  unfold encM Lib.encodeRune
  rw [Lib.encodeRuneZ_bad h]
  rfl

set_option maxHeartbeats 1000000 in
theorem encoded_one (x : Int) (w : World) (h0 : 0 ≤ x) (h1 : x ≤ 127) : Calls Tryd.prog 39 #[.int .i64 x] w (Bytes39 (encM x) w) := by
  have H := Lib.hid (enc_cells x (Lib.encodeRuneZ_one h0 h1))
  go_enter Tryd.func39, Tryd.ntmps39
  go_wp2_with fail
  go_ret
  refine ⟨?_, ?_⟩
  · rw [H.out.2]; rfl
  · rw [H.out.1]; rfl
set_option maxHeartbeats 1000000 in
theorem encoded_two (x : Int) (w : World) (h0 : 128 ≤ x) (h1 : x ≤ 2047) : Calls Tryd.prog 39 #[.int .i64 x] w (Bytes39 (encM x) w) := by
  have H := Lib.hid (enc_cells x (Lib.encodeRuneZ_two h0 h1))
  go_enter Tryd.func39, Tryd.ntmps39
  go_wp2_with fail
  go_ret
  refine ⟨?_, ?_⟩
  · rw [H.out.2]; rfl
  · rw [H.out.1]; rfl
set_option maxHeartbeats 1000000 in
theorem encoded_three (x : Int) (w : World) (h : (2048 ≤ x ∧ x < 55296) ∨ (57343 < x ∧ x ≤ 65535)) : Calls Tryd.prog 39 #[.int .i64 x] w (Bytes39 (encM x) w) := by
  have H := Lib.hid (enc_cells x (Lib.encodeRuneZ_three h))
  rcases h with ⟨h0, h1⟩ | ⟨h0, h1⟩
  · go_enter Tryd.func39, Tryd.ntmps39
    go_wp2_with fail
    go_ret
    refine ⟨?_, ?_⟩
    · rw [H.out.2]; rfl
    · rw [H.out.1]; rfl
  · go_enter Tryd.func39, Tryd.ntmps39
    go_wp2_with fail
    go_ret
    refine ⟨?_, ?_⟩
    · rw [H.out.2]; rfl
    · rw [H.out.1]; rfl
set_option maxHeartbeats 1000000 in
theorem encoded_four (x : Int) (w : World) (h0 : 65536 ≤ x) (h1 : x ≤ 1114111) : Calls Tryd.prog 39 #[.int .i64 x] w (Bytes39 (encM x) w) := by
  have H := Lib.hid (enc_cells x (Lib.encodeRuneZ_four h0 h1))
  go_enter Tryd.func39, Tryd.ntmps39
  go_wp2_with fail
  go_ret
  refine ⟨?_, ?_⟩
  · rw [H.out.2]; rfl
  · rw [H.out.1]; rfl
set_option maxHeartbeats 1000000 in
theorem encoded_no (x : Int) (w : World) (h : x < 0 ∨ (55296 ≤ x ∧ x ≤ 57343) ∨ 1114111 < x) : Calls Tryd.prog 39 #[.int .i64 x] w (Bytes39 (encM x) w) := by
  have H := Lib.hid (encoded_three 65533 w (by omega))
  have HB := Lib.hid (enc_bad' h)
  rcases h with h | ⟨h0, h1⟩ | h
  · go_enter Tryd.func39, Tryd.ntmps39
    go_wp2_with fail
    refine H.out.mono ?_
    rintro e w1 ⟨rfl, rfl⟩
    rw [enc_bad]
    go_wp2_with fail
    go_ret
    rw [HB.out]
    exact ⟨rfl, rfl⟩
  · go_enter Tryd.func39, Tryd.ntmps39
    go_wp2_with fail
    refine H.out.mono ?_
    rintro e w1 ⟨rfl, rfl⟩
    rw [enc_bad]
    go_wp2_with fail
    go_ret
    rw [HB.out]
    exact ⟨rfl, rfl⟩
  · have h' : 0 ≤ x := by omega
    go_enter Tryd.func39, Tryd.ntmps39
    go_wp2_with fail
    refine H.out.mono ?_
    rintro e w1 ⟨rfl, rfl⟩
    rw [enc_bad]
    go_wp2_with fail
    go_ret
    rw [HB.out]
    exact ⟨rfl, rfl⟩
theorem encoded39 (x : Int) (w : World) : Calls Tryd.prog 39 #[.int .i64 x] w (Bytes39 (encM x) w) := by
  by_cases h1 : 0 ≤ x ∧ x ≤ 127
  · exact encoded_one x w h1.1 h1.2
  by_cases h2 : 128 ≤ x ∧ x ≤ 2047
  · exact encoded_two x w h2.1 h2.2
  by_cases h3 : (2048 ≤ x ∧ x < 55296) ∨ (57343 < x ∧ x ≤ 65535)
  · exact encoded_three x w h3
  by_cases h4 : 65536 ≤ x ∧ x ≤ 1114111
  · exact encoded_four x w h4.1 h4.2
  · exact encoded_no x w (by omega)

def Is27 (b : Bool) (c : CallD) (A : Option Addr) (k : Nat) (w : World) (e : Ending) (w' : World) : Prop := e = .returned (.bool b) ∧ w' = w.alloc (.cells (callCells c A k) 34)
set_option maxHeartbeats 400000 in
theorem isReading27 (c : CallD) (A : Option Addr) (k : Nat) (w : World) : Calls Tryd.prog 27 #[callV c A k] w (Is27 (rdB c) c A k w) := by
  obtain ⟨kind, n, dl, bs⟩ := c
  unfold callV Is27 callCells rdB isRd
  simp only
  by_cases h0 : 0 ≤ kind
  · by_cases h1 : kind ≤ 7
    · have hb : decide (0 ≤ kind ∧ kind ≤ 7) = true := by simp [h0, h1]
      rw [hb]
      clear hb
      go_enter Tryd.func27, Tryd.ntmps27
      go_wp2_with fail
      go_ret
      exact ⟨rfl, rfl⟩
    · have hb : decide (0 ≤ kind ∧ kind ≤ 7) = false := by simp [h1]
      rw [hb]
      clear hb
      go_enter Tryd.func27, Tryd.ntmps27
      go_wp2_with fail
      go_ret
      exact ⟨rfl, rfl⟩
  · have hb : decide (0 ≤ kind ∧ kind ≤ 7) = false := by simp [h0]
    rw [hb]
    clear hb
    go_enter Tryd.func27, Tryd.ntmps27
    go_wp2_with fail
    go_ret
    exact ⟨rfl, rfl⟩
set_option maxHeartbeats 400000 in
theorem isWriting28 (c : CallD) (A : Option Addr) (k : Nat) (w : World) : Calls Tryd.prog 28 #[callV c A k] w (Is27 (wrB c) c A k w) := by
  obtain ⟨kind, n, dl, bs⟩ := c
  unfold callV Is27 callCells wrB isWr
  simp only
  by_cases h0 : 8 ≤ kind
  · by_cases h1 : kind ≤ 12
    · have hb : decide (8 ≤ kind ∧ kind ≤ 12) = true := by simp [h0, h1]
      rw [hb]
      clear hb
      go_enter Tryd.func28, Tryd.ntmps28
      go_wp2_with fail
      go_ret
      exact ⟨rfl, rfl⟩
    · have hb : decide (8 ≤ kind ∧ kind ≤ 12) = false := by simp [h1]
      rw [hb]
      clear hb
      go_enter Tryd.func28, Tryd.ntmps28
      go_wp2_with fail
      go_ret
      exact ⟨rfl, rfl⟩
  · have hb : decide (8 ≤ kind ∧ kind ≤ 12) = false := by simp [h0]
    rw [hb]
    clear hb
    go_enter Tryd.func28, Tryd.ntmps28
    go_wp2_with fail
    go_ret
    exact ⟨rfl, rfl⟩
end Go.Proofs.YtancmlapnhccdaaDoor
