/- The walks of the laws on uniform images: each law returns true, whatever the colour, and changes nothing that was there. -/
import Derived.Test.YtcldabiipniecaaImpl
namespace Go.Proofs.Ytcldabiipniecaa
open Go.RowKit

/-- the law returned true and changed nothing -/
def Truly (w : World) (e : Ending) (w' : World) : Prop := e = .returned (.bool true) ∧ Below w.heap.size w w'

/-- the five fields of a colour lie at block n -/
def Cells5 (n : Nat) (c0 c1 c2 c3 c4 : Value) (w1 : World) : Prop :=
  w1.cell? ⟨n, 0, none⟩ = some c0 ∧ w1.cell? ⟨n, 1, none⟩ = some c1 ∧ w1.cell? ⟨n, 2, none⟩ = some c2 ∧ w1.cell? ⟨n, 3, none⟩ = some c3 ∧ w1.cell? ⟨n, 4, none⟩ = some c4

theorem keeps5 (w : World) (c0 c1 c2 c3 c4 : Value) (w1 : World) (W : World) (hW : w.alloc (Obj.cells #[c0, c1, c2, c3, c4] 24) = W)
    (hb : Below W.heap.size W w1) : Cells5 w.heap.size c0 c1 c2 c3 c4 w1 := by
  have sz : W.heap.size = w.heap.size + 1 := by subst hW; simp
  obtain ⟨hc, hf⟩ := bcell hb
  unfold Cells5
  rw [hc _ _ (by omega), hc _ _ (by omega), hc _ _ (by omega), hc _ _ (by omega), hc _ _ (by omega)]
  subst hW
  refine ⟨?_, ?_, ?_, ?_, ?_⟩ <;> simp [go_sem]

theorem fld0 (R G B A : Int) (w : World) : (Instr.field 31 (.agg #[.int .u32 R, .int .u32 G, .int .u32 B, .int .u32 A]) 0).run Try.prog w = .ok (.int .u32 R) w := by kernel_rfl
theorem fld1 (R G B A : Int) (w : World) : (Instr.field 31 (.agg #[.int .u32 R, .int .u32 G, .int .u32 B, .int .u32 A]) 1).run Try.prog w = .ok (.int .u32 G) w := by kernel_rfl
theorem fld2 (R G B A : Int) (w : World) : (Instr.field 31 (.agg #[.int .u32 R, .int .u32 G, .int .u32 B, .int .u32 A]) 2).run Try.prog w = .ok (.int .u32 B) w := by kernel_rfl
theorem fld3 (R G B A : Int) (w : World) : (Instr.field 31 (.agg #[.int .u32 R, .int .u32 G, .int .u32 B, .int .u32 A]) 3).run Try.prog w = .ok (.int .u32 A) w := by kernel_rfl

set_option maxHeartbeats 1000000 in
theorem law12 (k r g b a x y : Int) (w : World) (hr : 0 ≤ r) (hr' : r ≤ 65535) (hg : 0 ≤ g) (hg' : g ≤ 65535) (hb : 0 ≤ b) (hb' : b ≤ 65535) (ha : 0 ≤ a) (ha' : a ≤ 65535) :
    Calls Try.prog 12 #[colV k r g b a, .int .i64 x, .int .i64 y] w (Truly w) := by
  obtain ⟨T, v, f, hp, hP⟩ := color_of k r g b a hr hr' hg hg' hb hb' ha ha'
  obtain ⟨T', v', f', hp', hP'⟩ := color_of 4 7 0 0 0 (by omega) (by omega) (by omega) (by omega) (by omega) (by omega) (by omega) (by omega)
  have e1 : vR 4 7 0 = 7 := rfl
  have e2 : vG 4 7 0 0 = 7 := rfl
  have e3 : vA 4 0 = 65535 := rfl
  rw [e1, e2, e3] at hP'
  clear e1 e2 e3
  generalize vR k r a = R at hP
  generalize vG k r g a = G at hP
  generalize vG k r b a = B at hP
  generalize vA k a = A at hP
  have Hp : PaintedAs (colV k r g b a) T v := hp
  have Hp' : PaintedAs (colV 4 7 0 0 0) T' v' := hp'
  clear hp hp' hr hr' hg hg' hb hb' ha ha'
  have f0 := fld0 7 7 7 65535
  go_enter Try.func12, Try.ntmps12
  go_wp2_with fail
  generalize hW : w.alloc (Obj.cells #[.int .i64 k, .int .u16 r, .int .u16 g, .int .u16 b, .int .u16 a] 24) = W
  have KK := Lib.hid (fun w1 => keeps5 w _ _ _ _ _ w1 W hW)
  have hB : Below w.heap.size w W := by subst hW; exact (Below.refl _ _).alloc (Nat.le_refl _) _
  clear hW
  have k0 := Lib.hid (KK.out W (Below.refl _ _))
  go_region_held3 (fun w' => w'.cell? ⟨w.heap.size, 0, none⟩ = some (.int .i64 k) ∧ w'.cell? ⟨w.heap.size, 1, none⟩ = some (.int .u16 r) ∧ w'.cell? ⟨w.heap.size, 2, none⟩ = some (.int .u16 g) ∧ w'.cell? ⟨w.heap.size, 3, none⟩ = some (.int .u16 b) ∧ w'.cell? ⟨w.heap.size, 4, none⟩ = some (.int .u16 a))
    (first | exact k0.out | exact k1.out | exact k2.out | exact k3.out)
    (first
    | (go_at_call 22; refine (impl22 T v f R G B A x y _ _ _ _ _ _ Hp hP).mono ?_; rintro e w1 ⟨rfl, hb1⟩; have kb1 := below_on ((Below.refl _ W).drew) hb1; have k1 := Lib.hid (KK.out w1 kb1); clear k0)
    | (go_at_call_of 16 (Value.int IntKind.u16 r); refine (impl16 T v f R G B A _ _ _ _ _ _ Hp hP).mono ?_; rintro e w2 ⟨rfl, hb2⟩; have kb2 := below_on kb1 hb2; have k2 := Lib.hid (KK.out w2 kb2); clear k1)
    | (go_at_call_of 16 (Value.int IntKind.u16 7); refine (impl16 T' v' f' 7 7 7 65535 _ _ _ _ _ _ Hp' hP').mono ?_; rintro e w3 ⟨rfl, hb3⟩; have kb3 := below_on kb2 hb3; have k3 := Lib.hid (KK.out w3 kb3); clear k2))
  go_wp2_with fail
  go_ret
  exact ⟨rfl, hB.trans (kb3.mono hB.size)⟩
end Go.Proofs.Ytcldabiipniecaa
