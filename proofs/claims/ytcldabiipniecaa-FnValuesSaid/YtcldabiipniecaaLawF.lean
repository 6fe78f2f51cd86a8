/- The walks of FnValues, FnScaled and FnNear. -/
import Derived.Test.YtcldabiipniecaaLawE
namespace Go.Proofs.Ytcldabiipniecaa
open Go.RowKit

/-- a colour's five cells at n, and four numbers at m -/
def Cells9 (n m : Nat) (c0 c1 c2 c3 c4 : Value) (R G B A : Int) (w1 : World) : Prop :=
  w1.cell? ⟨n, 0, none⟩ = some c0 ∧ w1.cell? ⟨n, 1, none⟩ = some c1 ∧ w1.cell? ⟨n, 2, none⟩ = some c2 ∧ w1.cell? ⟨n, 3, none⟩ = some c3 ∧ w1.cell? ⟨n, 4, none⟩ = some c4 ∧
  w1.cell? ⟨m, 0, none⟩ = some (.int .u32 R) ∧ w1.cell? ⟨m, 1, none⟩ = some (.int .u32 G) ∧ w1.cell? ⟨m, 2, none⟩ = some (.int .u32 B) ∧ w1.cell? ⟨m, 3, none⟩ = some (.int .u32 A)

theorem keeps9 (w w1 : World) (c0 c1 c2 c3 c4 : Value) (R G B A : Int) (W w2 : World)
    (hb1 : Below (w.alloc (Obj.cells #[c0, c1, c2, c3, c4] 24)).heap.size (w.alloc (Obj.cells #[c0, c1, c2, c3, c4] 24)) w1)
    (hW : w1.alloc (Obj.cells #[.int .u32 R, .int .u32 G, .int .u32 B, .int .u32 A] 31) = W)
    (hb : Below W.heap.size W w2) : Cells9 w.heap.size w1.heap.size c0 c1 c2 c3 c4 R G B A w2 := by
  have sz : W.heap.size = w1.heap.size + 1 := by subst hW; simp
  have s1 := hb1.size
  simp at s1
  obtain ⟨hc, _⟩ := bcell hb
  obtain ⟨hd, _⟩ := bcell hb1
  unfold Cells9
  rw [hc _ _ (by omega), hc _ _ (by omega), hc _ _ (by omega), hc _ _ (by omega), hc _ _ (by omega), hc _ _ (by omega), hc _ _ (by omega), hc _ _ (by omega), hc _ _ (by omega)]
  subst hW
  have e : ∀ o, (w1.alloc (Obj.cells #[.int .u32 R, .int .u32 G, .int .u32 B, .int .u32 A] 31)).cell? ⟨w.heap.size, o, none⟩ = (w.alloc (Obj.cells #[c0, c1, c2, c3, c4] 24)).cell? ⟨w.heap.size, o, none⟩ := fun o => by
    rw [← hd _ _ (by simp)]
    exact ((Below.refl w1.heap.size w1).alloc (Nat.le_refl _) _).cell (p := ⟨w.heap.size, o, none⟩) (by simp; omega)
  rw [e, e, e, e, e]
  refine ⟨?_, ?_, ?_, ?_, ?_, ?_, ?_, ?_, ?_⟩ <;> simp [go_sem]

set_option maxHeartbeats 1000000 in
theorem told8 (c0 c1 c2 c3 c4 : Value) (T : TypeId) (v : Value) (f : Nat) (R G B A : Int) (w : World)
    (hs : ∀ w, Calls Try.prog 18 #[.agg #[c0, c1, c2, c3, c4]] w (Told R G B A true w)) (Hp : PaintedAs (.agg #[c0, c1, c2, c3, c4]) T v) (hP : Paints T v f R G B A) :
    Calls Try.prog 8 #[.agg #[c0, c1, c2, c3, c4]] w (Truly w) := by
  have Hs := Lib.hid hs; clear hs
  go_enter Try.func8, Try.ntmps8
  go_wp2_with fail
  refine (Hs.out _).mono ?_; rintro e w1 ⟨rfl, hb1⟩
  go_wp2_with fail
  generalize hW : w1.alloc (Obj.cells #[.int .u32 R, .int .u32 G, .int .u32 B, .int .u32 A] 31) = W
  have KK := Lib.hid (fun w2 => keeps9 w w1 c0 c1 c2 c3 c4 R G B A W w2 hb1 hW)
  have hB : Below w.heap.size w W := by
    have s1 := hb1.size
    simp at s1
    subst hW; exact (((Below.refl _ _).alloc (Nat.le_refl _) _).trans (hb1.mono (by simp))).alloc (by omega) _
  clear hW hb1
  have k0 := Lib.hid (KK.out W (Below.refl _ _))
  go_region_held3 (fun w' => w'.cell? ⟨w.heap.size, 0, none⟩ = some c0 ∧ w'.cell? ⟨w.heap.size, 1, none⟩ = some c1 ∧ w'.cell? ⟨w.heap.size, 2, none⟩ = some c2 ∧ w'.cell? ⟨w.heap.size, 3, none⟩ = some c3 ∧ w'.cell? ⟨w.heap.size, 4, none⟩ = some c4 ∧ w'.cell? ⟨w1.heap.size, 0, none⟩ = some (.int .u32 R) ∧ w'.cell? ⟨w1.heap.size, 1, none⟩ = some (.int .u32 G) ∧ w'.cell? ⟨w1.heap.size, 2, none⟩ = some (.int .u32 B) ∧ w'.cell? ⟨w1.heap.size, 3, none⟩ = some (.int .u32 A)) (first | exact k0.out | exact k1.out)
    (first
    | (go_at_call 16; refine (impl16 T v f R G B A _ _ _ _ _ _ Hp hP).mono ?_; rintro e w2 ⟨rfl, hb2⟩; have kb1 := below_on ((Below.refl _ W).drew) hb2; have k1 := Lib.hid (KK.out w2 kb1); clear k0))
  go_wp2_with fail
  go_ret
  exact ⟨rfl, hB.trans (kb1.mono hB.size)⟩

set_option maxHeartbeats 1000000 in
theorem untold8 (c0 c1 c2 c3 c4 : Value) (w : World)
    (hs : ∀ w, Calls Try.prog 18 #[.agg #[c0, c1, c2, c3, c4]] w (Told 0 0 0 0 false w)) :
    Calls Try.prog 8 #[.agg #[c0, c1, c2, c3, c4]] w (Truly w) := by
  have Hs := Lib.hid hs; clear hs
  go_enter Try.func8, Try.ntmps8
  go_wp2_with fail
  refine (Hs.out _).mono ?_; rintro e w1 ⟨rfl, hb1⟩
  go_wp2_with fail
  go_quiet (fail)
  go_wp2_with fail
  go_ret
  have s1 := hb1.size
  simp at s1
  exact ⟨rfl, below_drewN ((((Below.refl _ _).alloc (Nat.le_refl _) _).trans (hb1.mono (by simp))).alloc (by omega) _) _⟩

set_option maxHeartbeats 1000000 in
theorem told9 (c0 c1 c2 c3 c4 : Value) (T : TypeId) (v : Value) (f : Nat) (R G B A : Int) (w : World)
    (hs : ∀ w, Calls Try.prog 19 #[.agg #[c0, c1, c2, c3, c4]] w (Told R G B A true w)) (Hp : PaintedAs (.agg #[c0, c1, c2, c3, c4]) T v) (hP : Paints T v f R G B A) :
    Calls Try.prog 9 #[.agg #[c0, c1, c2, c3, c4]] w (Truly w) := by
  have Hs := Lib.hid hs; clear hs
  go_enter Try.func9, Try.ntmps9
  go_wp2_with fail
  refine (Hs.out _).mono ?_; rintro e w1 ⟨rfl, hb1⟩
  go_wp2_with fail
  generalize hW : w1.alloc (Obj.cells #[.int .u32 R, .int .u32 G, .int .u32 B, .int .u32 A] 31) = W
  have KK := Lib.hid (fun w2 => keeps9 w w1 c0 c1 c2 c3 c4 R G B A W w2 hb1 hW)
  have hB : Below w.heap.size w W := by
    have s1 := hb1.size
    simp at s1
    subst hW; exact (((Below.refl _ _).alloc (Nat.le_refl _) _).trans (hb1.mono (by simp))).alloc (by omega) _
  clear hW hb1
  have k0 := Lib.hid (KK.out W (Below.refl _ _))
  go_region_held3 (fun w' => w'.cell? ⟨w.heap.size, 0, none⟩ = some c0 ∧ w'.cell? ⟨w.heap.size, 1, none⟩ = some c1 ∧ w'.cell? ⟨w.heap.size, 2, none⟩ = some c2 ∧ w'.cell? ⟨w.heap.size, 3, none⟩ = some c3 ∧ w'.cell? ⟨w.heap.size, 4, none⟩ = some c4 ∧ w'.cell? ⟨w1.heap.size, 0, none⟩ = some (.int .u32 R) ∧ w'.cell? ⟨w1.heap.size, 1, none⟩ = some (.int .u32 G) ∧ w'.cell? ⟨w1.heap.size, 2, none⟩ = some (.int .u32 B) ∧ w'.cell? ⟨w1.heap.size, 3, none⟩ = some (.int .u32 A)) (first | exact k0.out | exact k1.out)
    (first
    | (go_at_call 16; refine (impl16 T v f R G B A _ _ _ _ _ _ Hp hP).mono ?_; rintro e w2 ⟨rfl, hb2⟩; have kb1 := below_on ((Below.refl _ W).drew) hb2; have k1 := Lib.hid (KK.out w2 kb1); clear k0))
  go_wp2_with fail
  go_ret
  exact ⟨rfl, hB.trans (kb1.mono hB.size)⟩

set_option maxHeartbeats 1000000 in
theorem untold9 (c0 c1 c2 c3 c4 : Value) (w : World)
    (hs : ∀ w, Calls Try.prog 19 #[.agg #[c0, c1, c2, c3, c4]] w (Told 0 0 0 0 false w)) :
    Calls Try.prog 9 #[.agg #[c0, c1, c2, c3, c4]] w (Truly w) := by
  have Hs := Lib.hid hs; clear hs
  go_enter Try.func9, Try.ntmps9
  go_wp2_with fail
  refine (Hs.out _).mono ?_; rintro e w1 ⟨rfl, hb1⟩
  go_wp2_with fail
  go_quiet (fail)
  go_wp2_with fail
  go_ret
  have s1 := hb1.size
  simp at s1
  exact ⟨rfl, below_drewN ((((Below.refl _ _).alloc (Nat.le_refl _) _).trans (hb1.mono (by simp))).alloc (by omega) _) _⟩

theorem law8 (k r g b a : Int) (w : World) (hr : 0 ≤ r) (hr' : r ≤ 65535) (hg : 0 ≤ g) (hg' : g ≤ 65535) (hb : 0 ≤ b) (hb' : b ≤ 65535) (ha : 0 ≤ a) (ha' : a ≤ 65535) :
    Calls Try.prog 8 #[colV k r g b a] w (Truly w) := by
  obtain ⟨T, v, f, hp, hP⟩ := color_of k r g b a hr hr' hg hg' hb hb' ha ha'
  by_cases h1 : k = 1
  · subst h1
    exact told8 _ _ _ _ _ T v f _ _ _ _ w (fun w => scaled18_1 r g b a w hr hr' hg hg' hb hb' ha ha') hp hP
  by_cases h3 : k = 3
  · subst h3
    exact told8 _ _ _ _ _ T v f _ _ _ _ w (fun w => scaled18_3 r g b a w hr hg hb ha) hp hP
  · exact untold8 _ _ _ _ _ w (fun w => scaled18_0 k r g b a w (by simp [h1]) (by simp [h3]))

theorem law9 (k r g b a : Int) (w : World) (hr : 0 ≤ r) (hr' : r ≤ 65535) (hg : 0 ≤ g) (hg' : g ≤ 65535) (hb : 0 ≤ b) (hb' : b ≤ 65535) (ha : 0 ≤ a) (ha' : a ≤ 65535) :
    Calls Try.prog 9 #[colV k r g b a] w (Truly w) := by
  obtain ⟨T, v, f, hp, hP⟩ := color_of k r g b a hr hr' hg hg' hb hb' ha ha'
  by_cases h13 : k = 1 ∨ k = 3
  · exact untold9 _ _ _ _ _ w (fun w => whole19_13 k r g b a w h13)
  by_cases h2 : k = 2
  · subst h2
    exact told9 _ _ _ _ _ T v f _ _ _ _ w (fun w => whole19_2 r g b a w hr hg hb ha) hp hP
  by_cases h4 : k = 4
  · subst h4
    exact told9 _ _ _ _ _ T v f _ _ _ _ w (fun w => whole19_4 r g b a w hr hr') hp hP
  by_cases h5 : k = 5
  · subst h5
    exact told9 _ _ _ _ _ T v f _ _ _ _ w (fun w => whole19_5 r g b a w ha ha') hp hP
  · have h1 : ¬ k = 1 := fun h => h13 (.inl h)
    have h3 : ¬ k = 3 := fun h => h13 (.inr h)
    rw [show vR k r a = r by simp [vR, vX, h1, h2, h3, h5], show vG k r g a = g by simp [vG, vX, h1, h2, h3, h4, h5], show vG k r b a = b by simp [vG, vX, h1, h2, h3, h4, h5], show vA k a = a by simp [vA, h2, h3, h4]] at hP
    exact told9 _ _ _ _ _ T v f _ _ _ _ w (fun w => whole19_0 k r g b a w (by simp [h1]) (by simp [h2]) (by simp [h3]) (by simp [h4]) (by simp [h5]) hr hr' hg hg' hb hb' ha ha') hp hP

end Go.Proofs.Ytcldabiipniecaa
