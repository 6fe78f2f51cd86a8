/- The walks of the laws on uniform images: each law returns true, whatever the colour, and changes nothing that was there. -/
import Derived.Test.YtcldabiipniecaaLawA
namespace Go.Proofs.Ytcldabiipniecaa
open Go.RowKit

theorem scale_le (x a m : Int) (hm : 0 < m) (h' : x ≤ m) (ha : 0 ≤ a) : x * a / m ≤ a :=
  Int.ediv_le_of_le_mul hm (by rw [Int.mul_comm a m]; exact Int.mul_le_mul_of_nonneg_right h' ha)
theorem scale_nonneg (x a m : Int) (hm : 0 < m) (h : 0 ≤ x) (ha : 0 ≤ a) : 0 ≤ x * a / m := Int.ediv_nonneg (Int.mul_nonneg h ha) (by omega)
theorem scale3_le (x a : Int) (h' : x ≤ 255) (ha : 0 ≤ a) : x * 257 * a / 255 ≤ a * 257 := by
  have : x * 257 * a = x * (a * 257) := by rw [Int.mul_assoc, Int.mul_comm 257 a]
  rw [this]
  exact scale_le x (a * 257) 255 (by omega) h' (by omega)

theorem vX_bd (k x a : Int) (h : 0 ≤ x) (h' : x ≤ 65535) (ha : 0 ≤ a) (ha' : a ≤ 65535) : 0 ≤ vX k x a ∧ vX k x a ≤ 65535 := by
  unfold vX
  have s1 := scale_le x a 65535 (by omega) h' ha
  have s2 := scale_nonneg x a 65535 (by omega) h ha
  have s3 := scale3_le (x % 256) (a % 256) (by omega) (by omega)
  have s4 := scale_nonneg (x % 256 * 257) (a % 256) 255 (by omega) (by omega) (by omega)
  split
  · omega
  split
  · omega
  split
  · omega
  · omega
theorem vR_bd (k r a : Int) (h : 0 ≤ r) (h' : r ≤ 65535) (ha : 0 ≤ a) (ha' : a ≤ 65535) : 0 ≤ vR k r a ∧ vR k r a ≤ 65535 := by
  unfold vR; split
  · omega
  · exact vX_bd k r a h h' ha ha'
theorem vG_bd (k r g a : Int) (hr : 0 ≤ r) (hr' : r ≤ 65535) (h : 0 ≤ g) (h' : g ≤ 65535) (ha : 0 ≤ a) (ha' : a ≤ 65535) : 0 ≤ vG k r g a ∧ vG k r g a ≤ 65535 := by
  unfold vG; split
  · omega
  split
  · omega
  · exact vX_bd k g a h h' ha ha'
theorem vA_bd (k a : Int) (ha : 0 ≤ a) (ha' : a ≤ 65535) : 0 ≤ vA k a ∧ vA k a ≤ 65535 := by
  unfold vA; split
  · omega
  split
  · omega
  split
  · omega
  · omega

set_option maxHeartbeats 1000000 in
theorem law11 (k r g b a x y : Int) (w : World) (hr : 0 ≤ r) (hr' : r ≤ 65535) (hg : 0 ≤ g) (hg' : g ≤ 65535) (hb : 0 ≤ b) (hb' : b ≤ 65535) (ha : 0 ≤ a) (ha' : a ≤ 65535) :
    Calls Try.prog 11 #[colV k r g b a, .int .i64 x, .int .i64 y] w (Truly w) := by
  obtain ⟨T, v, f, hp, hP⟩ := color_of k r g b a hr hr' hg hg' hb hb' ha ha'
  have Hp : PaintedAs (colV k r g b a) T v := hp
  clear hp
  obtain ⟨T', v', f', hp', hP'⟩ := color_of 5 0 0 0 9 (by omega) (by omega) (by omega) (by omega) (by omega) (by omega) (by omega) (by omega)
  rw [show vR 5 0 9 = 9 from rfl, show vG 5 0 0 9 = 9 from rfl, show vA 5 9 = 9 from rfl] at hP'
  have Hp' : PaintedAs (colV 5 0 0 0 9) T' v' := hp'
  clear hp'
  obtain ⟨b1, b1'⟩ := vR_bd k r a hr hr' ha ha'
  obtain ⟨b2, b2'⟩ := vG_bd k r g a hr hr' hg hg' ha ha'
  obtain ⟨b3, b3'⟩ := vG_bd k r b a hr hr' hb hb' ha ha'
  obtain ⟨b4, b4'⟩ := vA_bd k a ha ha'
  generalize vR k r a = R at *
  generalize vG k r g a = G at *
  generalize vG k r b a = B at *
  generalize vA k a = A at *
  clear hr hr' hg hg' hb hb' ha ha'
  have f3 := fld3 9 9 9 9
  have hI := Lib.hid (fun w => impl21 T v f R G B A x y _ _ _ _ _ w Hp hP b1 b1' b2 b2' b3 b3' b4 b4')
  clear b1 b1' b2 b2' b3 b3' b4 b4'
  go_enter Try.func11, Try.ntmps11
  go_wp2_with fail
  generalize hW : w.alloc (Obj.cells #[.int .i64 k, .int .u16 r, .int .u16 g, .int .u16 b, .int .u16 a] 24) = W
  have KK := Lib.hid (fun w1 => keeps5 w _ _ _ _ _ w1 W hW)
  have hB : Below w.heap.size w W := by subst hW; exact (Below.refl _ _).alloc (Nat.le_refl _) _
  clear hW
  have k0 := Lib.hid (KK.out W (Below.refl _ _))
  go_region_held3 (fun w' => w'.cell? ⟨w.heap.size, 0, none⟩ = some (.int .i64 k) ∧ w'.cell? ⟨w.heap.size, 1, none⟩ = some (.int .u16 r) ∧ w'.cell? ⟨w.heap.size, 2, none⟩ = some (.int .u16 g) ∧ w'.cell? ⟨w.heap.size, 3, none⟩ = some (.int .u16 b) ∧ w'.cell? ⟨w.heap.size, 4, none⟩ = some (.int .u16 a)) (first | exact k0.out | exact k1.out | exact k2.out | exact k3.out)
    (first
    | (go_at_call 21; refine (hI.out _).mono ?_; rintro e w1 ⟨rfl, hb1⟩; have kb1 := below_on ((Below.refl _ W).drew) hb1; have k1 := Lib.hid (KK.out w1 kb1); clear k0)
    | (go_at_call_of 16 (Value.int IntKind.u16 r); refine (impl16 T v f R G B A _ _ _ _ _ _ Hp hP).mono ?_; rintro e w2 ⟨rfl, hb2⟩; have kb2 := below_on kb1 hb2; have k2 := Lib.hid (KK.out w2 kb2); clear k1)
    | (go_at_call_of 16 (Value.int IntKind.i64 5); refine (impl16 T' v' f' 9 9 9 9 _ _ _ _ _ _ Hp' hP').mono ?_; rintro e w3 ⟨rfl, hb3⟩; have kb3 := below_on kb2 hb3; have k3 := Lib.hid (KK.out w3 kb3); clear k2))
  go_wp2_with fail
  go_ret
  exact ⟨rfl, hB.trans (kb3.mono hB.size)⟩

set_option maxHeartbeats 1000000 in
theorem law10 (k r g b a : Int) (w : World) (hr : 0 ≤ r) (hr' : r ≤ 65535) (hg : 0 ≤ g) (hg' : g ≤ 65535) (hb : 0 ≤ b) (hb' : b ≤ 65535) (ha : 0 ≤ a) (ha' : a ≤ 65535) :
    Calls Try.prog 10 #[colV k r g b a] w (Truly w) := by
  obtain ⟨T, v, f, hp, hP⟩ := color_of k r g b a hr hr' hg hg' hb hb' ha ha'
  have Hp : PaintedAs (colV k r g b a) T v := hp
  clear hp
  obtain ⟨T', v', f', hp', hP'⟩ := color_of 4 0 0 0 0 (by omega) (by omega) (by omega) (by omega) (by omega) (by omega) (by omega) (by omega)
  rw [show vR 4 0 0 = 0 from rfl, show vG 4 0 0 0 = 0 from rfl, show vA 4 0 = 65535 from rfl] at hP'
  have Hp' : PaintedAs (colV 4 0 0 0 0) T' v' := hp'
  clear hp'
  generalize vR k r a = R at *
  generalize vG k r g a = G at *
  generalize vG k r b a = B at *
  generalize vA k a = A at *
  clear hr hr' hg hg' hb hb' ha ha'
  have f3 := fld3 R G B A
  go_enter Try.func10, Try.ntmps10
  go_wp2_with fail
  generalize hW : w.alloc (Obj.cells #[.int .i64 k, .int .u16 r, .int .u16 g, .int .u16 b, .int .u16 a] 24) = W
  have KK := Lib.hid (fun w1 => keeps5 w _ _ _ _ _ w1 W hW)
  have hB : Below w.heap.size w W := by subst hW; exact (Below.refl _ _).alloc (Nat.le_refl _) _
  clear hW
  have k0 := Lib.hid (KK.out W (Below.refl _ _))
  go_region_held3 (fun w' => w'.cell? ⟨w.heap.size, 0, none⟩ = some (.int .i64 k) ∧ w'.cell? ⟨w.heap.size, 1, none⟩ = some (.int .u16 r) ∧ w'.cell? ⟨w.heap.size, 2, none⟩ = some (.int .u16 g) ∧ w'.cell? ⟨w.heap.size, 3, none⟩ = some (.int .u16 b) ∧ w'.cell? ⟨w.heap.size, 4, none⟩ = some (.int .u16 a)) (first | exact k0.out | exact k1.out | exact k2.out | exact k3.out)
    (first
    | (go_at_call_of 20 (Value.int IntKind.u16 r); refine (impl20 T v f R G B A _ _ _ _ _ _ Hp hP).mono ?_; rintro e w1 ⟨rfl, hb1⟩; have kb1 := below_on ((Below.refl _ W).drew) hb1; have k1 := Lib.hid (KK.out w1 kb1); clear k0)
    | (go_at_call 16; refine (impl16 T v f R G B A _ _ _ _ _ _ Hp hP).mono ?_; rintro e w2 ⟨rfl, hb2⟩; have kb2 := below_on kb1 hb2; have k2 := Lib.hid (KK.out w2 kb2); clear k1)
    | (go_at_call_of 20 (Value.int IntKind.i64 4); refine (impl20 T' v' f' 0 0 0 65535 _ _ _ _ _ _ Hp' hP').mono ?_; rintro e w3 ⟨rfl, hb3⟩; have kb3 := below_on kb2 hb3; have k3 := Lib.hid (KK.out w3 kb3); clear k2))
  go_wp2_with fail
  go_ret
  exact ⟨rfl, hB.trans (kb3.mono hB.size)⟩

set_option maxHeartbeats 1000000 in
theorem law3 (k r g b a k' r' g' b' a' : Int) (w : World) (hr : 0 ≤ r) (hr' : r ≤ 65535) (hg : 0 ≤ g) (hg' : g ≤ 65535) (hb : 0 ≤ b) (hb' : b ≤ 65535) (ha : 0 ≤ a) (ha' : a ≤ 65535)
    (hr1 : 0 ≤ r') (hr1' : r' ≤ 65535) (hg1 : 0 ≤ g') (hg1' : g' ≤ 65535) (hb1 : 0 ≤ b') (hb1' : b' ≤ 65535) (ha1 : 0 ≤ a') (ha1' : a' ≤ 65535) :
    Calls Try.prog 3 #[colV k r g b a, colV k' r' g' b' a'] w (Truly w) := by
  obtain ⟨T, v, f, hp, hP⟩ := color_of k r g b a hr hr' hg hg' hb hb' ha ha'
  obtain ⟨T', v', f', hp', hP'⟩ := color_of k' r' g' b' a' hr1 hr1' hg1 hg1' hb1 hb1' ha1 ha1'
  have Hp : PaintedAs (colV k r g b a) T v := hp
  have Hp' : PaintedAs (colV k' r' g' b' a') T' v' := hp'
  clear hp hp' hP hP' hr hr' hg hg' hb hb' ha ha' hr1 hr1' hg1 hg1' hb1 hb1' ha1 ha1'
  go_enter Try.func3, Try.ntmps3
  go_wp2_with fail
  refine (impl15 T v _ _ _ _ _ _ Hp).mono ?_; rintro e w1 ⟨rfl, hb1⟩
  obtain ⟨hc1, hf1⟩ := bcell hb1
  go_wp2_with fail
  refine (impl15 T' v' _ _ _ _ _ _ Hp').mono ?_; rintro e w2 ⟨rfl, hb2⟩
  go_wp2_with fail
  go_ret
  exact ⟨rfl, (((Below.refl _ _).alloc (Nat.le_refl _) _).alloc (by simp) _).trans ((below_on hb1 hb2).mono (by simp; omega))⟩

set_option maxHeartbeats 1000000 in
theorem law4 (k r g b a : Int) (w : World) (hr : 0 ≤ r) (hr' : r ≤ 65535) (hg : 0 ≤ g) (hg' : g ≤ 65535) (hb : 0 ≤ b) (hb' : b ≤ 65535) (ha : 0 ≤ a) (ha' : a ≤ 65535) :
    Calls Try.prog 4 #[colV k r g b a] w (Truly w) := by
  obtain ⟨T, v, f, hp, hP⟩ := color_of k r g b a hr hr' hg hg' hb hb' ha ha'
  have Hp : PaintedAs (colV k r g b a) T v := hp
  clear hp hP hr hr' hg hg' hb hb' ha ha'
  go_enter Try.func4, Try.ntmps4
  go_wp2_with fail
  refine (impl15 T v _ _ _ _ _ _ Hp).mono ?_; rintro e w1 ⟨rfl, hb1⟩
  go_wp2_with fail
  go_ret
  exact ⟨rfl, ((Below.refl _ _).alloc (Nat.le_refl _) _).trans (hb1.mono (by simp))⟩

end Go.Proofs.Ytcldabiipniecaa
