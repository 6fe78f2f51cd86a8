/- The walks of FnRange and FnClear. -/
import Derived.Test.YtcldabiipniecaaLawB
import Derived.Test.YtcldabiipniecaaLawC
namespace Go.Proofs.Ytcldabiipniecaa
open Go.RowKit

/-- Where a colour is scaled no value is greater than its alpha. -/
theorem vals_le (k r g a : Int) (hr' : r ≤ 65535) (hg' : g ≤ 65535) (ha : 0 ≤ a) (hk : k = 1 ∨ k = 3 ∨ k = 4 ∨ k = 5) : vR k r a ≤ vA k a ∧ vG k r g a ≤ vA k a := by
  rcases hk with rfl | rfl | rfl | rfl
  · have s1 := scale_le r a 65535 (by omega) hr' ha
    have s2 := scale_le g a 65535 (by omega) hg' ha
    exact ⟨s1, s2⟩
  · have s1 := scale3_le (r % 256) (a % 256) (by omega) (by omega)
    have s2 := scale3_le (g % 256) (a % 256) (by omega) (by omega)
    exact ⟨s1, s2⟩
  · exact ⟨hr', hr'⟩
  · exact ⟨Int.le_refl _, Int.le_refl _⟩

set_option maxHeartbeats 1000000 in
/-- FnRange over a colour that is painted, in one of the kinds that are scaled. -/
theorem range_scaled (k : Int) (hk : k = 1 ∨ k = 3 ∨ k = 4 ∨ k = 5) (c1 c2 c3 c4 : Value) (T : TypeId) (v : Value) (f : Nat) (R G B A : Int) (w : World) (Hp : PaintedAs (.agg #[.int .i64 k, c1, c2, c3, c4]) T v) (hP : Paints T v f R G B A)
    (b1' : R ≤ 65535) (b2' : G ≤ 65535) (b3' : B ≤ 65535) (b4' : A ≤ 65535) (l1 : R ≤ A) (l2 : G ≤ A) (l3 : B ≤ A) :
    Calls Try.prog 7 #[.agg #[.int .i64 k, c1, c2, c3, c4]] w (Truly w) := by
  obtain ⟨T', v', f', hp', hP'⟩ := color_of 0 0 0 0 1 (by omega) (by omega) (by omega) (by omega) (by omega) (by omega) (by omega) (by omega)
  rw [show vR 0 0 1 = 0 from rfl, show vG 0 0 0 1 = 0 from rfl, show vA 0 1 = 1 from rfl] at hP'
  have Hp' : PaintedAs (colV 0 0 0 0 1) T' v' := hp'
  clear hp'
  have f3 := fld3 0 0 0 1
  rcases hk with rfl | rfl | rfl | rfl
  all_goals
    go_enter Try.func7, Try.ntmps7
    go_wp2_with fail
    refine (impl16 T v f R G B A _ _ _ _ _ _ Hp hP).mono ?_; rintro e w1 ⟨rfl, hb1⟩
    obtain ⟨hc1, hf1⟩ := bcell hb1
    have hz1 : w.heap.size < w1.heap.size := by have := hb1.size; simp at this; omega
    go_wp2_with fail
    refine (impl16 T' v' f' 0 0 0 1 _ _ _ _ _ _ Hp' hP').mono ?_; rintro e w2 ⟨rfl, hb2⟩
    go_wp2_with fail
    go_ret
    have hb3 := two hb1 hb2
    exact ⟨rfl, ((Below.refl _ _).alloc (Nat.le_refl _) _).trans (hb3.mono (by simp))⟩

set_option maxHeartbeats 1000000 in
theorem range_other (k : Int) (k1 : (k == 1) = false) (k3 : (k == 3) = false) (k4 : (k == 4) = false) (k5 : (k == 5) = false) (c1 c2 c3 c4 : Value) (T : TypeId) (v : Value) (f : Nat) (R G B A : Int) (w : World) (Hp : PaintedAs (.agg #[.int .i64 k, c1, c2, c3, c4]) T v) (hP : Paints T v f R G B A)
    (b1' : R ≤ 65535) (b2' : G ≤ 65535) (b3' : B ≤ 65535) (b4' : A ≤ 65535) :
    Calls Try.prog 7 #[.agg #[.int .i64 k, c1, c2, c3, c4]] w (Truly w) := by
  obtain ⟨T', v', f', hp', hP'⟩ := color_of 0 0 0 0 1 (by omega) (by omega) (by omega) (by omega) (by omega) (by omega) (by omega) (by omega)
  rw [show vR 0 0 1 = 0 from rfl, show vG 0 0 0 1 = 0 from rfl, show vA 0 1 = 1 from rfl] at hP'
  have Hp' : PaintedAs (colV 0 0 0 0 1) T' v' := hp'
  clear hp'
  have f3 := fld3 0 0 0 1
  go_enter Try.func7, Try.ntmps7
  go_wp2_with fail
  refine (impl16 T v f R G B A _ _ _ _ _ _ Hp hP).mono ?_; rintro e w1 ⟨rfl, hb1⟩
  obtain ⟨hc1, hf1⟩ := bcell hb1
  have hz1 : w.heap.size < w1.heap.size := by have := hb1.size; simp at this; omega
  go_wp2_with fail
  refine (impl16 T' v' f' 0 0 0 1 _ _ _ _ _ _ Hp' hP').mono ?_; rintro e w2 ⟨rfl, hb2⟩
  go_wp2_with fail
  go_ret
  have hb3 := two hb1 hb2
  exact ⟨rfl, ((Below.refl _ _).alloc (Nat.le_refl _) _).trans (hb3.mono (by simp))⟩

theorem law7 (k r g b a : Int) (w : World) (hr : 0 ≤ r) (hr' : r ≤ 65535) (hg : 0 ≤ g) (hg' : g ≤ 65535) (hb : 0 ≤ b) (hb' : b ≤ 65535) (ha : 0 ≤ a) (ha' : a ≤ 65535) :
    Calls Try.prog 7 #[colV k r g b a] w (Truly w) := by
  obtain ⟨T, v, f, hp, hP⟩ := color_of k r g b a hr hr' hg hg' hb hb' ha ha'
  have Hp : PaintedAs (colV k r g b a) T v := hp
  by_cases hk : k = 1 ∨ k = 3 ∨ k = 4 ∨ k = 5
  · exact range_scaled k hk _ _ _ _ T v f _ _ _ _ w Hp hP (vR_bd k r a hr hr' ha ha').2 (vG_bd k r g a hr hr' hg hg' ha ha').2 (vG_bd k r b a hr hr' hb hb' ha ha').2 (vA_bd k a ha ha').2
      (vals_le k r g a hr' hg' ha hk).1 (vals_le k r g a hr' hg' ha hk).2 (vals_le k r b a hr' hb' ha hk).2
  · exact range_other k (by simp; omega) (by simp; omega) (by simp; omega) (by simp; omega) _ _ _ _ T v f _ _ _ _ w Hp hP (vR_bd k r a hr hr' ha ha').2 (vG_bd k r g a hr hr' hg hg' ha ha').2 (vG_bd k r b a hr hr' hb hb' ha ha').2 (vA_bd k a ha ha').2

set_option maxHeartbeats 1000000 in
theorem law5 (k r g b a : Int) (w : World) (hr : 0 ≤ r) (hr' : r ≤ 65535) (hg : 0 ≤ g) (hg' : g ≤ 65535) (hb : 0 ≤ b) (hb' : b ≤ 65535) (_ha : 0 ≤ a) (_ha' : a ≤ 65535) :
    Calls Try.prog 5 #[colV k r g b a] w (Truly w) := by
  obtain ⟨T, v, f, hp, hP⟩ := color_of 1 r g b 0 hr hr' hg hg' hb hb' (by omega) (by omega)
  have Hp : PaintedAs (colV 1 r g b 0) T v := hp
  obtain ⟨T', v', f', hp', hP'⟩ := color_of 1 r g b 65535 hr hr' hg hg' hb hb' (by omega) (by omega)
  have Hp' : PaintedAs (colV 1 r g b 65535) T' v' := hp'
  clear hp hp'
  have e0 : ∀ x : Int, x * 0 / 65535 = 0 := fun x => by rw [Int.mul_zero]; rfl
  have e1 : ∀ x : Int, x * 65535 / 65535 = x := fun x => Int.mul_ediv_cancel x (by omega)
  rw [show vR 1 r 0 = 0 from e0 r, show vG 1 r g 0 = 0 from e0 g, show vG 1 r b 0 = 0 from e0 b, show vA 1 0 = 0 from rfl] at hP
  rw [show vR 1 r 65535 = r from e1 r, show vG 1 r g 65535 = g from e1 g, show vG 1 r b 65535 = b from e1 b, show vA 1 65535 = 65535 from rfl] at hP'
  clear e0 e1
  have q0 : IntKind.u32.wrap r = r := by rw [IntKind.wrap_u32]; omega
  have q1 : IntKind.u32.wrap g = g := by rw [IntKind.wrap_u32]; omega
  have q2 : IntKind.u32.wrap b = b := by rw [IntKind.wrap_u32]; omega
  clear hr hr' hg hg' hb hb'
  go_enter Try.func5, Try.ntmps5
  go_wp2_with fail
  generalize hW : (w.alloc (Obj.cells #[.int .i64 1, .int .u16 r, .int .u16 g, .int .u16 b, .int .u16 0] 24)).alloc (Obj.cells #[.int .i64 1, .int .u16 r, .int .u16 g, .int .u16 b, .int .u16 65535] 24) = W
  have KK := Lib.hid (fun w1 => keeps10 w _ _ _ _ _ _ _ _ _ _ w1 W hW)
  have hB : Below w.heap.size w W := by subst hW; exact ((Below.refl _ _).alloc (Nat.le_refl _) _).alloc (by simp) _
  clear hW
  have k0 := Lib.hid (KK.out W (Below.refl _ _))
  go_region_held3 (fun w' => w'.cell? ⟨w.heap.size, 0, none⟩ = some (.int .i64 1) ∧ w'.cell? ⟨w.heap.size, 1, none⟩ = some (.int .u16 r) ∧ w'.cell? ⟨w.heap.size, 2, none⟩ = some (.int .u16 g) ∧ w'.cell? ⟨w.heap.size, 3, none⟩ = some (.int .u16 b) ∧ w'.cell? ⟨w.heap.size, 4, none⟩ = some (.int .u16 0) ∧ w'.cell? ⟨w.heap.size + 1, 0, none⟩ = some (.int .i64 1) ∧ w'.cell? ⟨w.heap.size + 1, 1, none⟩ = some (.int .u16 r) ∧ w'.cell? ⟨w.heap.size + 1, 2, none⟩ = some (.int .u16 g) ∧ w'.cell? ⟨w.heap.size + 1, 3, none⟩ = some (.int .u16 b) ∧ w'.cell? ⟨w.heap.size + 1, 4, none⟩ = some (.int .u16 65535)) (first | exact k0.out | exact k1.out | exact k2.out)
    (first
    | (go_at_call_of 16 (Value.int IntKind.u16 0); refine (impl16 T v f 0 0 0 0 _ _ _ _ _ _ Hp hP).mono ?_; rintro e w1 ⟨rfl, hb1⟩; have kb1 := below_on ((Below.refl _ W).drew) hb1; have k1 := Lib.hid (KK.out w1 kb1); clear k0)
    | (go_at_call_of 16 (Value.int IntKind.u16 65535); refine (impl16 T' v' f' r g b 65535 _ _ _ _ _ _ Hp' hP').mono ?_; rintro e w2 ⟨rfl, hb2⟩; have kb2 := below_on kb1 hb2; have k2 := Lib.hid (KK.out w2 kb2); clear k1))
  go_wp2_with fail
  go_ret
  exact ⟨rfl, hB.trans (kb2.mono hB.size)⟩
end Go.Proofs.Ytcldabiipniecaa
