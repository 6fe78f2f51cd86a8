/- Contracts of the methods of image.Uniform, and of image.NewUniform, over a colour whose method RGBA has a contract. -/
import Derived.Test.YtcldabiipniecaaPaint
import Derived.Outline
namespace Go.Proofs.Ytcldabiipniecaa
open Go.RowKit

theorem bcell {W w1 : World} (hb : Below W.heap.size W w1) : (∀ b o, b < W.heap.size → w1.cell? ⟨b, o, none⟩ = W.cell? ⟨b, o, none⟩) ∧ (∀ b o, b < W.heap.size → w1.frozen? ⟨b, o, none⟩ = W.frozen? ⟨b, o, none⟩) :=
  ⟨fun b o h => hb.cell (p := ⟨b, o, none⟩) h, fun b o h => hb.frozen (p := ⟨b, o, none⟩) h⟩

set_option maxHeartbeats 400000 in
theorem new25 (T : TypeId) (v : Value) (w : World) :
    Calls Try.prog 25 #[.iface T v] w fun e w' => e = .returned (.pointer (some ⟨w.heap.size, 0, none⟩)) ∧ w.alloc (.cells #[.iface T v] 65) = w' := by
  go_enter Try.func25, Try.ntmps25
  go_wp2
  go_ret
  exact ⟨rfl, rfl⟩

set_option maxHeartbeats 400000 in
theorem uni28 (T : TypeId) (v : Value) (f : Nat) (R G B A : Int) (b : Nat) (w : World) (hc : w.cell? ⟨b, 0, none⟩ = some (.iface T v)) (hP : Paints T v f R G B A) :
    Calls Try.prog 28 #[.pointer (some ⟨b, 0, none⟩)] w (Four R G B A w) := by
  obtain ⟨hm, hen, hf⟩ := hP
  have Hf := Lib.hid hf; clear hf
  go_enter Try.func28, Try.ntmps28
  go_wp2_with fail
  refine (Hf.out _).mono ?_; rintro e w2 ⟨rfl, hb2⟩
  go_wp2_with fail
  exact bodyPost_ret (v := .tuple #[.int .u32 R, .int .u32 G, .int .u32 B, .int .u32 A]) (by simp [results, Try.results28, go_sem]) rfl ⟨rfl, hb2⟩

set_option maxHeartbeats 400000 in
theorem uni32 (T : TypeId) (v : Value) (f : Nat) (R G B A : Int) (b : Nat) (w : World) (hc : w.cell? ⟨b, 0, none⟩ = some (.iface T v)) (hP : Paints T v f R G B A) :
    Calls Try.prog 32 #[.pointer (some ⟨b, 0, none⟩)] w fun e w' => e = .returned (.bool (A == 65535)) ∧ Below w.heap.size w w' := by
  obtain ⟨hm, hen, hf⟩ := hP
  have Hf := Lib.hid hf; clear hf
  go_enter Try.func32, Try.ntmps32
  go_wp2_with fail
  refine (Hf.out _).mono ?_; rintro e w2 ⟨rfl, hb2⟩
  go_wp2_with fail
  go_ret
  exact ⟨rfl, hb2⟩

set_option maxHeartbeats 400000 in
theorem uni33 (T : TypeId) (v : Value) (f : Nat) (R G B A x y : Int) (b : Nat) (w : World) (hc : w.cell? ⟨b, 0, none⟩ = some (.iface T v)) (hb : b < w.heap.size) (hP : Paints T v f R G B A)
    (hr : 0 ≤ R) (hr' : R ≤ 65535) (hg : 0 ≤ G) (hg' : G ≤ 65535) (hB : 0 ≤ B) (hB' : B ≤ 65535) (ha : 0 ≤ A) (ha' : A ≤ 65535) :
    Calls Try.prog 33 #[.pointer (some ⟨b, 0, none⟩), .int .i64 x, .int .i64 y] w fun e w' => e = .returned (.agg #[.int .u16 R, .int .u16 G, .int .u16 B, .int .u16 A]) ∧ Below w.heap.size w w' := by
  obtain ⟨hm, hen, hf⟩ := hP
  have Hf := Lib.hid hf; clear hf
  go_enter Try.func33, Try.ntmps33
  go_wp2_with fail
  refine (Hf.out _).mono ?_; rintro e w2 ⟨rfl, hb2⟩
  obtain ⟨hc2, hf2⟩ := bcell hb2
  have hz : w.heap.size < w2.heap.size := by have := hb2.size; simp at this; omega
  go_wp2_with fail
  refine bodyPost_ret (v := .agg #[.int .u16 R, .int .u16 G, .int .u16 B, .int .u16 A]) (by simp [results, Try.results33, go_sem, hc2]) rfl ⟨rfl, ?_⟩
  exact ((((((Below.refl _ _).alloc (Nat.le_refl _) _).trans (hb2.mono (by simp))).setCell (by simp) _).setCell (by simp) _).setCell (by simp) _).setCell (by simp) _

set_option maxHeartbeats 400000 in
theorem uni35 (T : TypeId) (v : Value) (x y : Int) (b : Nat) (w : World) (hc : w.cell? ⟨b, 0, none⟩ = some (.iface T v)) :
    Calls Try.prog 35 #[.pointer (some ⟨b, 0, none⟩), .int .i64 x, .int .i64 y] w fun e w' => e = .returned (.iface T v) ∧ w = w' := by
  go_enter Try.func35, Try.ntmps35
  go_wp2_with fail
  go_ret
  exact ⟨rfl, rfl⟩

set_option maxHeartbeats 400000 in
theorem uni36 (T : TypeId) (v d : Value) (b : Nat) (w : World) (hc : w.cell? ⟨b, 0, none⟩ = some (.iface T v)) :
    Calls Try.prog 36 #[.pointer (some ⟨b, 0, none⟩), d] w fun e w' => e = .returned (.iface T v) ∧ w = w' := by
  go_enter Try.func36, Try.ntmps36
  go_wp2_with fail
  go_ret
  exact ⟨rfl, rfl⟩

set_option maxHeartbeats 400000 in
theorem uni37 (b : Nat) (w : World) :
    Calls Try.prog 37 #[.pointer (some ⟨b, 0, none⟩)] w fun e w' => e = .returned (.iface 43 (.pointer (some ⟨b, 0, none⟩))) ∧ w = w' := by
  go_enter Try.func37, Try.ntmps37
  go_wp2_with fail
  go_ret
  exact ⟨rfl, rfl⟩

set_option maxHeartbeats 400000 in
theorem values34 (T : TypeId) (v : Value) (f : Nat) (R G B A : Int) (w : World) (hP : Paints T v f R G B A) :
    Calls Try.prog 34 #[.iface T v] w fun e w' => e = .returned (.agg #[.int .u32 R, .int .u32 G, .int .u32 B, .int .u32 A]) ∧ Below w.heap.size w w' := by
  obtain ⟨hm, hen, hf⟩ := hP
  have Hf := Lib.hid hf; clear hf
  go_enter Try.func34, Try.ntmps34
  go_wp2_with fail
  refine (Hf.out _).mono ?_; rintro e w2 ⟨rfl, hb2⟩
  obtain ⟨hc2, hf2⟩ := bcell hb2
  have hz : w.heap.size < w2.heap.size := by have := hb2.size; simp at this; omega
  go_wp2_with fail
  refine bodyPost_ret (v := .agg #[.int .u32 R, .int .u32 G, .int .u32 B, .int .u32 A]) (by simp [results, Try.results34, go_sem, hc2]) rfl ⟨rfl, ?_⟩
  exact ((((((Below.refl _ _).alloc (Nat.le_refl _) _).trans (hb2.mono (by simp))).setCell (by simp) _).setCell (by simp) _).setCell (by simp) _).setCell (by simp) _
end Go.Proofs.Ytcldabiipniecaa
