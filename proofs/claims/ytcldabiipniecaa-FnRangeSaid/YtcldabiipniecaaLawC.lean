/- The walks of FnConvert and FnModel: each returns true, whatever the colours, and changes nothing that was there. -/
import Derived.Test.YtcldabiipniecaaLawA
namespace Go.Proofs.Ytcldabiipniecaa
open Go.RowKit

theorem keeps10 (w : World) (c0 c1 c2 c3 c4 d0 d1 d2 d3 d4 : Value) (w1 : World) (W : World)
    (hW : (w.alloc (Obj.cells #[c0, c1, c2, c3, c4] 24)).alloc (Obj.cells #[d0, d1, d2, d3, d4] 24) = W)
    (hb : Below W.heap.size W w1) : Cells10 w.heap.size c0 c1 c2 c3 c4 d0 d1 d2 d3 d4 w1 := by
  have sz : W.heap.size = w.heap.size + 2 := by subst hW; simp
  obtain ⟨hc, hf⟩ := bcell hb
  unfold Cells10
  rw [hc _ _ (by omega), hc _ _ (by omega), hc _ _ (by omega), hc _ _ (by omega), hc _ _ (by omega), hc _ _ (by omega), hc _ _ (by omega), hc _ _ (by omega), hc _ _ (by omega), hc _ _ (by omega)]
  subst hW
  refine ⟨?_, ?_, ?_, ?_, ?_, ?_, ?_, ?_, ?_, ?_⟩ <;> simp [go_sem]

set_option maxHeartbeats 1000000 in
theorem law13 (k r g b a k' r' g' b' a' : Int) (w : World) (hr : 0 ≤ r) (hr' : r ≤ 65535) (hg : 0 ≤ g) (hg' : g ≤ 65535) (hb : 0 ≤ b) (hb' : b ≤ 65535) (ha : 0 ≤ a) (ha' : a ≤ 65535)
    (hr1 : 0 ≤ r') (hr1' : r' ≤ 65535) (hg1 : 0 ≤ g') (hg1' : g' ≤ 65535) (hb1 : 0 ≤ b') (hb1' : b' ≤ 65535) (ha1 : 0 ≤ a') (ha1' : a' ≤ 65535) :
    Calls Try.prog 13 #[colV k r g b a, colV k' r' g' b' a'] w (Truly w) := by
  obtain ⟨T, v, f, hp, hP⟩ := color_of k r g b a hr hr' hg hg' hb hb' ha ha'
  have Hp : PaintedAs (colV k r g b a) T v := hp
  obtain ⟨T1, v1, f1, hp1, _⟩ := color_of k' r' g' b' a' hr1 hr1' hg1 hg1' hb1 hb1' ha1 ha1'
  have Hp1 : PaintedAs (colV k' r' g' b' a') T1 v1 := hp1
  obtain ⟨T', v', f', hp', hP'⟩ := color_of 4 3 0 0 0 (by omega) (by omega) (by omega) (by omega) (by omega) (by omega) (by omega) (by omega)
  rw [show vR 4 3 0 = 3 from rfl, show vG 4 3 0 0 = 3 from rfl, show vA 4 0 = 65535 from rfl] at hP'
  have Hp' : PaintedAs (colV 4 3 0 0 0) T' v' := hp'
  clear hp hp1 hp'
  generalize vR k r a = R at *
  generalize vG k r g a = G at *
  generalize vG k r b a = B at *
  generalize vA k a = A at *
  clear hr hr' hg hg' hb hb' ha ha' hr1 hr1' hg1 hg1' hb1 hb1' ha1 ha1'
  have f1 := fld1 3 3 3 65535
  go_enter Try.func13, Try.ntmps13
  go_wp2_with fail
  generalize hW : (w.alloc (Obj.cells #[.int .i64 k, .int .u16 r, .int .u16 g, .int .u16 b, .int .u16 a] 24)).alloc (Obj.cells #[.int .i64 k', .int .u16 r', .int .u16 g', .int .u16 b', .int .u16 a'] 24) = W
  have KK := Lib.hid (fun w1 => keeps10 w _ _ _ _ _ _ _ _ _ _ w1 W hW)
  have hB : Below w.heap.size w W := by subst hW; exact ((Below.refl _ _).alloc (Nat.le_refl _) _).alloc (by simp) _
  clear hW
  have k0 := Lib.hid (KK.out W (Below.refl _ _))
  go_region_held3 (fun w' => w'.cell? ⟨w.heap.size, 0, none⟩ = some (.int .i64 k) ∧ w'.cell? ⟨w.heap.size, 1, none⟩ = some (.int .u16 r) ∧ w'.cell? ⟨w.heap.size, 2, none⟩ = some (.int .u16 g) ∧ w'.cell? ⟨w.heap.size, 3, none⟩ = some (.int .u16 b) ∧ w'.cell? ⟨w.heap.size, 4, none⟩ = some (.int .u16 a) ∧ w'.cell? ⟨w.heap.size + 1, 0, none⟩ = some (.int .i64 k') ∧ w'.cell? ⟨w.heap.size + 1, 1, none⟩ = some (.int .u16 r') ∧ w'.cell? ⟨w.heap.size + 1, 2, none⟩ = some (.int .u16 g') ∧ w'.cell? ⟨w.heap.size + 1, 3, none⟩ = some (.int .u16 b') ∧ w'.cell? ⟨w.heap.size + 1, 4, none⟩ = some (.int .u16 a')) (first | exact k0.out | exact k1.out | exact k2.out | exact k3.out)
    (first
    | (go_at_call_of 23 (Value.int IntKind.i64 k); refine (impl23 T v f R G B A _ _ _ _ _ _ _ _ _ _ T1 v1 _ Hp hP Hp1).mono ?_; rintro e w1 ⟨rfl, hb1⟩; have kb1 := below_on ((Below.refl _ W).drew) hb1; have k1 := Lib.hid (KK.out w1 kb1); clear k0)
    | (go_at_call 16; refine (impl16 T v f R G B A _ _ _ _ _ _ Hp hP).mono ?_; rintro e w2 ⟨rfl, hb2⟩; have kb2 := below_on kb1 hb2; have k2 := Lib.hid (KK.out w2 kb2); clear k1)
    | (go_at_call_of 23 (Value.int IntKind.i64 4); refine (impl23 T' v' f' 3 3 3 65535 _ _ _ _ _ _ _ _ _ _ T1 v1 _ Hp' hP' Hp1).mono ?_; rintro e w3 ⟨rfl, hb3⟩; have kb3 := below_on kb2 hb3; have k3 := Lib.hid (KK.out w3 kb3); clear k2))
  go_wp2_with fail
  go_ret
  exact ⟨rfl, hB.trans (kb3.mono hB.size)⟩

set_option maxHeartbeats 1000000 in
theorem law14 (k r g b a k' r' g' b' a' : Int) (w : World) (hr : 0 ≤ r) (hr' : r ≤ 65535) (hg : 0 ≤ g) (hg' : g ≤ 65535) (hb : 0 ≤ b) (hb' : b ≤ 65535) (ha : 0 ≤ a) (ha' : a ≤ 65535)
    (hr1 : 0 ≤ r') (hr1' : r' ≤ 65535) (hg1 : 0 ≤ g') (hg1' : g' ≤ 65535) (hb1 : 0 ≤ b') (hb1' : b' ≤ 65535) (ha1 : 0 ≤ a') (ha1' : a' ≤ 65535) :
    Calls Try.prog 14 #[colV k r g b a, colV k' r' g' b' a'] w (Truly w) := by
  obtain ⟨T, v, f, hp, hP⟩ := color_of k r g b a hr hr' hg hg' hb hb' ha ha'
  have Hp : PaintedAs (colV k r g b a) T v := hp
  obtain ⟨T1, v1, f1, hp1, _⟩ := color_of k' r' g' b' a' hr1 hr1' hg1 hg1' hb1 hb1' ha1 ha1'
  have Hp1 : PaintedAs (colV k' r' g' b' a') T1 v1 := hp1
  obtain ⟨T', v', f', hp', hP'⟩ := color_of 4 3 0 0 0 (by omega) (by omega) (by omega) (by omega) (by omega) (by omega) (by omega) (by omega)
  rw [show vR 4 3 0 = 3 from rfl, show vG 4 3 0 0 = 3 from rfl, show vA 4 0 = 65535 from rfl] at hP'
  have Hp' : PaintedAs (colV 4 3 0 0 0) T' v' := hp'
  clear hp hp1 hp'
  generalize vR k r a = R at *
  generalize vG k r g a = G at *
  generalize vG k r b a = B at *
  generalize vA k a = A at *
  clear hr hr' hg hg' hb hb' ha ha' hr1 hr1' hg1 hg1' hb1 hb1' ha1 ha1'
  have f1 := fld2 3 3 3 65535
  go_enter Try.func14, Try.ntmps14
  go_wp2_with fail
  generalize hW : (w.alloc (Obj.cells #[.int .i64 k, .int .u16 r, .int .u16 g, .int .u16 b, .int .u16 a] 24)).alloc (Obj.cells #[.int .i64 k', .int .u16 r', .int .u16 g', .int .u16 b', .int .u16 a'] 24) = W
  have KK := Lib.hid (fun w1 => keeps10 w _ _ _ _ _ _ _ _ _ _ w1 W hW)
  have hB : Below w.heap.size w W := by subst hW; exact ((Below.refl _ _).alloc (Nat.le_refl _) _).alloc (by simp) _
  clear hW
  have k0 := Lib.hid (KK.out W (Below.refl _ _))
  go_region_held3 (fun w' => w'.cell? ⟨w.heap.size, 0, none⟩ = some (.int .i64 k) ∧ w'.cell? ⟨w.heap.size, 1, none⟩ = some (.int .u16 r) ∧ w'.cell? ⟨w.heap.size, 2, none⟩ = some (.int .u16 g) ∧ w'.cell? ⟨w.heap.size, 3, none⟩ = some (.int .u16 b) ∧ w'.cell? ⟨w.heap.size, 4, none⟩ = some (.int .u16 a) ∧ w'.cell? ⟨w.heap.size + 1, 0, none⟩ = some (.int .i64 k') ∧ w'.cell? ⟨w.heap.size + 1, 1, none⟩ = some (.int .u16 r') ∧ w'.cell? ⟨w.heap.size + 1, 2, none⟩ = some (.int .u16 g') ∧ w'.cell? ⟨w.heap.size + 1, 3, none⟩ = some (.int .u16 b') ∧ w'.cell? ⟨w.heap.size + 1, 4, none⟩ = some (.int .u16 a')) (first | exact k0.out | exact k1.out | exact k2.out | exact k3.out)
    (first
    | (go_at_call_of 24 (Value.int IntKind.i64 k); refine (impl24 T v f R G B A _ _ _ _ _ _ _ _ _ _ T1 v1 _ Hp hP Hp1).mono ?_; rintro e w1 ⟨rfl, hb1⟩; have kb1 := below_on ((Below.refl _ W).drew) hb1; have k1 := Lib.hid (KK.out w1 kb1); clear k0)
    | (go_at_call 16; refine (impl16 T v f R G B A _ _ _ _ _ _ Hp hP).mono ?_; rintro e w2 ⟨rfl, hb2⟩; have kb2 := below_on kb1 hb2; have k2 := Lib.hid (KK.out w2 kb2); clear k1)
    | (go_at_call_of 24 (Value.int IntKind.i64 4); refine (impl24 T' v' f' 3 3 3 65535 _ _ _ _ _ _ _ _ _ _ T1 v1 _ Hp' hP' Hp1).mono ?_; rintro e w3 ⟨rfl, hb3⟩; have kb3 := below_on kb2 hb3; have k3 := Lib.hid (KK.out w3 kb3); clear k2))
  go_wp2_with fail
  go_ret
  exact ⟨rfl, hB.trans (kb3.mono hB.size)⟩

end Go.Proofs.Ytcldabiipniecaa
