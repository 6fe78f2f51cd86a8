/- The walk of FnNear. -/
import Derived.Test.YtcldabiipniecaaLawE
import Derived.Deep.RegionWith
namespace Go.Proofs.Ytcldabiipniecaa
open Go.RowKit

/-- rounding down is near: v = p / m with p = x * a -/
theorem near_div (p m : Int) (hm : 0 < m) : p / m * m < p + m ∧ p < p / m * m + m := by
  have h1 := Int.emod_add_mul_ediv p m
  have h2 := Int.emod_nonneg p (by omega : m ≠ 0)
  have h3 := Int.emod_lt_of_pos p hm
  rw [Int.mul_comm] at h1
  omega

set_option maxHeartbeats 1000000 in
theorem near17_1 (r g b a R G B : Int) (w : World) (hr : 0 ≤ r) (hr' : r ≤ 65535) (hg : 0 ≤ g) (hg' : g ≤ 65535) (hb : 0 ≤ b) (hb' : b ≤ 65535) (ha : 0 ≤ a) (ha' : a ≤ 65535) (n1 : (∀ w, Calls Try.prog 29 #[.int .u32 (R), .int .u32 (r), .int .u32 (a), .int .u32 65535] w fun e w' => e = .returned (.bool true) ∧ w' = w)) (n2 : (∀ w, Calls Try.prog 29 #[.int .u32 (G), .int .u32 (g), .int .u32 (a), .int .u32 65535] w fun e w' => e = .returned (.bool true) ∧ w' = w)) (n3 : (∀ w, Calls Try.prog 29 #[.int .u32 (B), .int .u32 (b), .int .u32 (a), .int .u32 65535] w fun e w' => e = .returned (.bool true) ∧ w' = w)) :
    Calls Try.prog 17 #[colV 1 r g b a, .agg #[.int .u32 R, .int .u32 G, .int .u32 B, .int .u32 a]] w (Truly w) := by
  have N1 := Lib.hid n1; clear n1
  have N2 := Lib.hid n2; clear n2
  have N3 := Lib.hid n3; clear n3
  go_enter Try.func17, Try.ntmps17
  go_wp2_with fail
  refine (N1.out _).mono ?_; rintro e w' ⟨rfl, rfl⟩
  go_wp2_with fail
  refine (N2.out _).mono ?_; rintro e w' ⟨rfl, rfl⟩
  go_wp2_with fail
  refine (N3.out _).mono ?_; rintro e w' ⟨rfl, rfl⟩
  go_wp2_with fail
  go_ret
  exact ⟨rfl, ((Below.refl _ _).alloc (Nat.le_refl _) _).alloc (by simp) _⟩

set_option maxHeartbeats 1000000 in
theorem near17_3 (r g b a R G B : Int) (w : World) (hr : 0 ≤ r) (hg : 0 ≤ g) (hb : 0 ≤ b) (ha : 0 ≤ a)
    (n1 : (∀ w, Calls Try.prog 29 #[.int .u32 (R), .int .u32 (r % 256 * 257), .int .u32 (a % 256), .int .u32 255] w fun e w' => e = .returned (.bool true) ∧ w' = w)) (n2 : (∀ w, Calls Try.prog 29 #[.int .u32 (G), .int .u32 (g % 256 * 257), .int .u32 (a % 256), .int .u32 255] w fun e w' => e = .returned (.bool true) ∧ w' = w)) (n3 : (∀ w, Calls Try.prog 29 #[.int .u32 (B), .int .u32 (b % 256 * 257), .int .u32 (a % 256), .int .u32 255] w fun e w' => e = .returned (.bool true) ∧ w' = w)) :
    Calls Try.prog 17 #[colV 3 r g b a, .agg #[.int .u32 R, .int .u32 G, .int .u32 B, .int .u32 (a % 256 * 257)]] w (Truly w) := by
  have N1 := Lib.hid n1; clear n1
  have N2 := Lib.hid n2; clear n2
  have N3 := Lib.hid n3; clear n3
  have v1 := Lib.hid (fun w => wide30 r w hr)
  have v2 := Lib.hid (fun w => wide30 g w hg)
  have v3 := Lib.hid (fun w => wide30 b w hb)
  have v4 := Lib.hid (fun w => wide30 a w ha)
  have q3 : IntKind.u32.wrap (a % 256) = a % 256 := IntWalk.u32_in _ (by omega)
  go_enter Try.func17, Try.ntmps17
  go_wp2_with fail
  generalize hW : (w.alloc (Obj.cells #[.int .i64 3, .int .u16 r, .int .u16 g, .int .u16 b, .int .u16 a] 24)).alloc (Obj.cells #[.int .u32 R, .int .u32 G, .int .u32 B, .int .u32 (a % 256 * 257)] 31) = W
  have hB : Below w.heap.size w W := by subst hW; exact ((Below.refl _ _).alloc (Nat.le_refl _) _).alloc (by simp) _
  have c0 : W.cell? ⟨w.heap.size, 0, none⟩ = some (.int .i64 3) := by subst hW; simp [go_sem]
  have c1 : W.cell? ⟨w.heap.size, 1, none⟩ = some (.int .u16 r) := by subst hW; simp [go_sem]
  have c2 : W.cell? ⟨w.heap.size, 2, none⟩ = some (.int .u16 g) := by subst hW; simp [go_sem]
  have c3 : W.cell? ⟨w.heap.size, 3, none⟩ = some (.int .u16 b) := by subst hW; simp [go_sem]
  have c4 : W.cell? ⟨w.heap.size, 4, none⟩ = some (.int .u16 a) := by subst hW; simp [go_sem]
  have d0 : W.cell? ⟨w.heap.size + 1, 0, none⟩ = some (.int .u32 R) := by subst hW; simp [go_sem]
  have d1 : W.cell? ⟨w.heap.size + 1, 1, none⟩ = some (.int .u32 G) := by subst hW; simp [go_sem]
  have d2 : W.cell? ⟨w.heap.size + 1, 2, none⟩ = some (.int .u32 B) := by subst hW; simp [go_sem]
  have d3 : W.cell? ⟨w.heap.size + 1, 3, none⟩ = some (.int .u32 (a % 256 * 257)) := by subst hW; simp [go_sem]
  clear hW
  refine wp_region_still_lit (by kernel_rfl) (by kernel_rfl) ?_
  change wpStill _ _ W.drew (fun a' => _) _ _
  repeat (first | still_step | (refine wpStill_step (fun K hK => ?_); go_simp; (first | (with_reducible refine ⟨_, N1.out _, hK _ ?_⟩) | (with_reducible refine ⟨_, N2.out _, hK _ ?_⟩) | (with_reducible refine ⟨_, N3.out _, hK _ ?_⟩) | (with_reducible refine ⟨_, v1.out _, hK _ ?_⟩) | (with_reducible refine ⟨_, v2.out _, hK _ ?_⟩) | (with_reducible refine ⟨_, v3.out _, hK _ ?_⟩) | (with_reducible refine ⟨_, v4.out _, hK _ ?_⟩)); clear hK K))
  refine wpStill_nil ?_
  clear c0 c1 c2 c3 c4 d0 d1 d2 d3
  change Exit.then _ _ _ _ W.drew
  go_wp2_with fail
  go_ret
  exact ⟨rfl, hB.drew⟩

/-- FnNear in the kinds of which it speaks -/
theorem keep5 (w : World) (c0 c1 c2 c3 c4 : Value) (w1 W : World) (hW : w.alloc (Obj.cells #[c0, c1, c2, c3, c4] 24) = W)
    (hb : Below W.heap.size W w1) : Cells5 w.heap.size c0 c1 c2 c3 c4 w1 := keeps5 w c0 c1 c2 c3 c4 w1 W hW hb

set_option maxHeartbeats 1000000 in
theorem near6_1 (r g b a R G B A : Int) (T : TypeId) (v : Value) (f : Nat) (w : World) (Hp : PaintedAs (colV 1 r g b a) T v) (hP : Paints T v f R G B A)
    (hn : ∀ w, Calls Try.prog 17 #[colV 1 r g b a, .agg #[.int .u32 R, .int .u32 G, .int .u32 B, .int .u32 A]] w (Truly w)) :
    Calls Try.prog 6 #[colV 1 r g b a] w (Truly w) := by
  have Hn := Lib.hid hn; clear hn
  go_enter Try.func6, Try.ntmps6
  go_wp2_with fail
  generalize hW : w.alloc (Obj.cells #[.int .i64 1, .int .u16 r, .int .u16 g, .int .u16 b, .int .u16 a] 24) = W
  have KK := Lib.hid (fun w1 => keep5 w _ _ _ _ _ w1 W hW)
  have hB : Below w.heap.size w W := by subst hW; exact (Below.refl _ _).alloc (Nat.le_refl _) _
  clear hW
  have k0 := Lib.hid (KK.out W (Below.refl _ _))
  obtain ⟨c0, c1, c2, c3, c4⟩ := k0.out
  first | (go_region_with (first
    | (go_at_call 16; refine (impl16 T v f R G B A _ _ _ _ _ _ Hp hP).mono ?_; rintro e w1 ⟨rfl, hb1⟩; have kb1 := below_on ((Below.refl _ W).drew) hb1; have k1 := Lib.hid (KK.out w1 kb1); clear k0; obtain ⟨d0, d1, d2, d3, d4⟩ := k1.out)
    | (go_at_call 17; refine (Hn.out _).mono ?_; rintro e w2 ⟨rfl, hb2⟩; have kb2 := below_on kb1 hb2; have k2 := Lib.hid (KK.out w2 kb2); clear k1))) | fail
  all_goals
    go_wp2_with fail
    go_ret
    exact ⟨rfl, hB.trans (kb2.mono hB.size)⟩

set_option maxHeartbeats 1000000 in
theorem near6_3 (r g b a R G B A : Int) (T : TypeId) (v : Value) (f : Nat) (w : World) (Hp : PaintedAs (colV 3 r g b a) T v) (hP : Paints T v f R G B A)
    (hn : ∀ w, Calls Try.prog 17 #[colV 3 r g b a, .agg #[.int .u32 R, .int .u32 G, .int .u32 B, .int .u32 A]] w (Truly w)) :
    Calls Try.prog 6 #[colV 3 r g b a] w (Truly w) := by
  have Hn := Lib.hid hn; clear hn
  go_enter Try.func6, Try.ntmps6
  go_wp2_with fail
  generalize hW : w.alloc (Obj.cells #[.int .i64 3, .int .u16 r, .int .u16 g, .int .u16 b, .int .u16 a] 24) = W
  have KK := Lib.hid (fun w1 => keep5 w _ _ _ _ _ w1 W hW)
  have hB : Below w.heap.size w W := by subst hW; exact (Below.refl _ _).alloc (Nat.le_refl _) _
  clear hW
  have k0 := Lib.hid (KK.out W (Below.refl _ _))
  go_region_held3 (fun w' => w'.cell? ⟨w.heap.size, 0, none⟩ = some (.int .i64 3) ∧ w'.cell? ⟨w.heap.size, 1, none⟩ = some (.int .u16 r) ∧ w'.cell? ⟨w.heap.size, 2, none⟩ = some (.int .u16 g) ∧ w'.cell? ⟨w.heap.size, 3, none⟩ = some (.int .u16 b) ∧ w'.cell? ⟨w.heap.size, 4, none⟩ = some (.int .u16 a)) (first | exact k0.out | exact k1.out | exact k2.out)
    (first
    | (go_at_call 16; refine (impl16 T v f R G B A _ _ _ _ _ _ Hp hP).mono ?_; rintro e w1 ⟨rfl, hb1⟩; have kb1 := below_on ((Below.refl _ W).drew) hb1; have k1 := Lib.hid (KK.out w1 kb1); clear k0)
    | (go_at_call 17; refine (Hn.out _).mono ?_; rintro e w2 ⟨rfl, hb2⟩; have kb2 := below_on kb1 hb2; have k2 := Lib.hid (KK.out w2 kb2); clear k1))
  all_goals
    go_wp2_with fail
    go_ret
    exact ⟨rfl, hB.trans (kb2.mono hB.size)⟩

set_option maxHeartbeats 1000000 in
theorem near6_0 (k r g b a : Int) (w : World) (k1 : (k != 1) = true) (k3 : (k != 3) = true) :
    Calls Try.prog 6 #[colV k r g b a] w (Truly w) := by
  go_enter Try.func6, Try.ntmps6
  go_wp2_with fail
  go_quiet (fail)
  go_wp2_with fail
  go_ret
  exact ⟨rfl, below_drewN ((Below.refl _ _).alloc (Nat.le_refl _) _) _⟩

theorem near_1 (x a : Int) (hx : 0 ≤ x) (hx' : x ≤ 65535) (ha : 0 ≤ a) (ha' : a ≤ 65535) : (∀ w, Calls Try.prog 29 #[.int .u32 (x * a / 65535), .int .u32 (x), .int .u32 (a), .int .u32 65535] w fun e w' => e = .returned (.bool true) ∧ w' = w) := fun w =>
  near29 _ x a 65535 w (scale_nonneg x a 65535 (by omega) hx ha) (by have := scale_le x a 65535 (by omega) hx' ha; omega) hx hx' ha ha' (by omega) (by omega) (near_div (x * a) 65535 (by omega)).1 (near_div (x * a) 65535 (by omega)).2
theorem near_3 (x a : Int) : (∀ w, Calls Try.prog 29 #[.int .u32 (x % 256 * 257 * (a % 256) / 255), .int .u32 (x % 256 * 257), .int .u32 (a % 256), .int .u32 255] w fun e w' => e = .returned (.bool true) ∧ w' = w) := fun w =>
  near29 _ (x % 256 * 257) (a % 256) 255 w (scale_nonneg _ _ 255 (by omega) (by omega) (by omega)) (by have := scale3_le (x % 256) (a % 256) (by omega) (by omega); omega) (by omega) (by omega) (by omega) (by omega) (by omega) (by omega) (near_div _ 255 (by omega)).1 (near_div _ 255 (by omega)).2

theorem law6 (k r g b a : Int) (w : World) (hr : 0 ≤ r) (hr' : r ≤ 65535) (hg : 0 ≤ g) (hg' : g ≤ 65535) (hb : 0 ≤ b) (hb' : b ≤ 65535) (ha : 0 ≤ a) (ha' : a ≤ 65535) :
    Calls Try.prog 6 #[colV k r g b a] w (Truly w) := by
  obtain ⟨T, v, f, hp, hP⟩ := color_of k r g b a hr hr' hg hg' hb hb' ha ha'
  by_cases h1 : k = 1
  · subst h1
    exact near6_1 r g b a _ _ _ _ T v f w hp hP (fun w => near17_1 r g b a _ _ _ w hr hr' hg hg' hb hb' ha ha' (near_1 r a hr hr' ha ha') (near_1 g a hg hg' ha ha') (near_1 b a hb hb' ha ha'))
  by_cases h3 : k = 3
  · subst h3
    exact near6_3 r g b a _ _ _ _ T v f w hp hP (fun w => near17_3 r g b a _ _ _ w hr hg hb ha (near_3 r a) (near_3 g a) (near_3 b a))
  · exact near6_0 k r g b a w (by simp [h1]) (by simp [h3])
end Go.Proofs.Ytcldabiipniecaa
