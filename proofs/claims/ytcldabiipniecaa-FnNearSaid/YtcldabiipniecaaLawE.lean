/- The reference's functions on colours (wide, scaled, near, Whole, Scaled): what each returns. -/
import Derived.Test.YtcldabiipniecaaLawB
import Derived.IntWalk
import Derived.StillTailTactics
namespace Go.Proofs.Ytcldabiipniecaa
open Go.RowKit

set_option maxHeartbeats 400000 in
theorem wide30 (x : Int) (w : World) (hx : 0 ≤ x) : Calls Try.prog 30 #[.int .u16 x] w fun e w' => e = .returned (.int .u32 (x % 256 * 257)) ∧ w' = w := by
  go_enter Try.func30, Try.ntmps30
  go_wp2
  go_ret
  exact ⟨rfl, rfl⟩

set_option maxHeartbeats 400000 in
theorem scaled31 (x a m : Int) (w : World) (h0 : 0 ≤ x * a) (h1 : x * a ≤ 4294967295) (hm : 0 < m) : Calls Try.prog 31 #[.int .u32 x, .int .u32 a, .int .u32 m] w fun e w' => e = .returned (.int .u32 (x * a / m)) ∧ w' = w := by
  have hz : (m == 0) = false := by simp; omega
  go_enter Try.func31, Try.ntmps31
  go_wp2
  go_ret
  exact ⟨rfl, rfl⟩

set_option maxHeartbeats 400000 in
theorem near29 (v x a m : Int) (w : World) (hv : 0 ≤ v) (hv' : v ≤ 65535) (hx : 0 ≤ x) (hx' : x ≤ 65535) (ha : 0 ≤ a) (ha' : a ≤ 65535) (hm : 0 ≤ m) (hm' : m ≤ 65535) (h1 : v * m < x * a + m) (h2 : x * a < v * m + m) :
    Calls Try.prog 29 #[.int .u32 v, .int .u32 x, .int .u32 a, .int .u32 m] w fun e w' => e = .returned (.bool true) ∧ w' = w := by
  obtain ⟨p0, p1⟩ := mul_bd x a 65535 65535 hx hx' ha ha'
  obtain ⟨q0, q1⟩ := mul_bd v m 65535 65535 hv hv' hm hm'
  have e1 : IntKind.u64.wrap (x * a) = x * a := by rw [IntKind.wrap_u64]; omega
  have e2 : IntKind.u64.wrap (v * m) = v * m := by rw [IntKind.wrap_u64]; omega
  go_enter Try.func29, Try.ntmps29
  go_wp2
  go_ret
  exact ⟨rfl, rfl⟩

/-- what the reference answers: four numbers and whether it speaks of the colour -/
def Told (R G B A : Int) (ok : Bool) (w : World) (e : Ending) (w' : World) : Prop :=
  e = .returned (.tuple #[.agg #[.int .u32 R, .int .u32 G, .int .u32 B, .int .u32 A], .bool ok]) ∧ Below w.heap.size w w'

/-- the result's four cells at block n -/
def Room4 (n : Nat) (w1 : World) : Prop :=
  w1.cell? ⟨n, 0, none⟩ = some (.int .u32 0) ∧ w1.cell? ⟨n, 1, none⟩ = some (.int .u32 0) ∧ w1.cell? ⟨n, 2, none⟩ = some (.int .u32 0) ∧ w1.cell? ⟨n, 3, none⟩ = some (.int .u32 0) ∧
  w1.frozen? ⟨n, 0, none⟩ = false ∧ w1.frozen? ⟨n, 1, none⟩ = false ∧ w1.frozen? ⟨n, 2, none⟩ = false ∧ w1.frozen? ⟨n, 3, none⟩ = false

theorem told_start (w : World) (c0 c1 c2 c3 c4 : Value) (W : World)
    (hW : (w.alloc (Obj.cells #[c0, c1, c2, c3, c4] 24)).alloc (Obj.cells #[.int .u32 0, .int .u32 0, .int .u32 0, .int .u32 0] 31) = W) :
    Cells5 w.heap.size c0 c1 c2 c3 c4 W ∧ Room4 (w.heap.size + 1) W ∧ Below w.heap.size w W := by
  subst hW
  refine ⟨⟨?_, ?_, ?_, ?_, ?_⟩, ⟨?_, ?_, ?_, ?_, ?_, ?_, ?_, ?_⟩, ((Below.refl _ _).alloc (Nat.le_refl _) _).alloc (by simp) _⟩ <;> simp [go_sem]

theorem cells5_set4 {n : Nat} {c0 c1 c2 c3 c4 : Value} {w1 : World} {u0 u1 u2 u3 : Value} (h : Cells5 n c0 c1 c2 c3 c4 w1) :
    Cells5 n c0 c1 c2 c3 c4 ((((w1.setCell ⟨n + 1, 0, none⟩ u0).setCell ⟨n + 1, 1, none⟩ u1).setCell ⟨n + 1, 2, none⟩ u2).setCell ⟨n + 1, 3, none⟩ u3) := by
  have hb : Below (n + 1) w1 ((((w1.setCell ⟨n + 1, 0, none⟩ u0).setCell ⟨n + 1, 1, none⟩ u1).setCell ⟨n + 1, 2, none⟩ u2).setCell ⟨n + 1, 3, none⟩ u3) :=
    ((((Below.refl (n + 1) w1).setCell (Nat.le_refl _) _).setCell (Nat.le_refl _) _).setCell (Nat.le_refl _) _).setCell (Nat.le_refl _) _
  have hc : ∀ b o, b < n + 1 → _ := fun b o hb2 => hb.cell (p := ⟨b, o, none⟩) hb2
  unfold Cells5
  rw [hc _ _ (by omega), hc _ _ (by omega), hc _ _ (by omega), hc _ _ (by omega), hc _ _ (by omega)]
  exact h

set_option maxHeartbeats 1000000 in
theorem scaled18_1 (r g b a : Int) (w : World) (hr : 0 ≤ r) (hr' : r ≤ 65535) (hg : 0 ≤ g) (hg' : g ≤ 65535) (hb : 0 ≤ b) (hb' : b ≤ 65535) (ha : 0 ≤ a) (ha' : a ≤ 65535) :
    Calls Try.prog 18 #[colV 1 r g b a] w (Told (r * a / 65535) (g * a / 65535) (b * a / 65535) a true w) := by
  have s1 := Lib.hid (fun w => scaled31 (r) (a) 65535 w (mul_bd (r) (a) 65535 65535 hr hr' ha ha').1 (by have := (mul_bd (r) (a) 65535 65535 hr hr' ha ha').2; omega) (by omega))
  have s2 := Lib.hid (fun w => scaled31 (g) (a) 65535 w (mul_bd (g) (a) 65535 65535 hg hg' ha ha').1 (by have := (mul_bd (g) (a) 65535 65535 hg hg' ha ha').2; omega) (by omega))
  have s3 := Lib.hid (fun w => scaled31 (b) (a) 65535 w (mul_bd (b) (a) 65535 65535 hb hb' ha ha').1 (by have := (mul_bd (b) (a) 65535 65535 hb hb' ha ha').2; omega) (by omega))
  have q0 : IntKind.u32.wrap r = r := IntWalk.u32_in r (by omega)
  have q1 : IntKind.u32.wrap g = g := IntWalk.u32_in g (by omega)
  have q2 : IntKind.u32.wrap b = b := IntWalk.u32_in b (by omega)
  have q3 : IntKind.u32.wrap a = a := IntWalk.u32_in a (by omega)
  go_enter Try.func18, Try.ntmps18
  go_wp2_with fail
  generalize hW : (w.alloc (Obj.cells #[.int .i64 1, .int .u16 r, .int .u16 g, .int .u16 b, .int .u16 a] 24)).alloc (Obj.cells #[.int .u32 0, .int .u32 0, .int .u32 0, .int .u32 0] 31) = W
  obtain ⟨kc, kr, hB⟩ := told_start w _ _ _ _ _ W hW
  clear hW
  obtain ⟨t0, t1, t2, t3, t4, t5, t6, t7⟩ := kr
  obtain ⟨c0, c1, c2, c3, c4⟩ := kc
  refine wp_region_still_tail 17 (by kernel_rfl) (by kernel_rfl) ?_
  simp only [List.take_succ_cons, List.take_zero, List.drop_succ_cons, List.drop_zero]
  change wpStill _ _ W.drew (fun a' => wpList _ _ _ _ a' W.drew) _ _
  repeat (first | still_step | (refine wpStill_step (fun K hK => ?_); go_simp; (first | (with_reducible refine ⟨_, s1.out _, hK _ ?_⟩) | (with_reducible refine ⟨_, s2.out _, hK _ ?_⟩) | (with_reducible refine ⟨_, s3.out _, hK _ ?_⟩)); clear hK K))
  refine wpStill_nil ?_
  clear c0 c1 c2 c3 c4
  go_wp2_with fail
  refine bodyPost_ret (v := .tuple #[.agg #[.int .u32 (r * a / 65535), .int .u32 (g * a / 65535), .int .u32 (b * a / 65535), .int .u32 (a)], .bool true]) (by simp [results, Try.results18, go_sem, t0, t1, t2, t3]) rfl ⟨rfl, ?_⟩
  exact ((((hB.setCell (by simp) _).setCell (by simp) _).setCell (by simp) _).setCell (by simp) _).drew

set_option maxHeartbeats 1000000 in
theorem scaled18_3 (r g b a : Int) (w : World) (hr : 0 ≤ r) (hg : 0 ≤ g) (hb : 0 ≤ b) (ha : 0 ≤ a) :
    Calls Try.prog 18 #[colV 3 r g b a] w (Told (r % 256 * 257 * (a % 256) / 255) (g % 256 * 257 * (a % 256) / 255) (b % 256 * 257 * (a % 256) / 255) (a % 256 * 257) true w) := by
  have s1 := Lib.hid (fun w => scaled31 (r % 256 * 257) (a % 256) 255 w (mul_bd (r % 256 * 257) (a % 256) 65535 255 (by omega) (by omega) (by omega) (by omega)).1 (by have := (mul_bd (r % 256 * 257) (a % 256) 65535 255 (by omega) (by omega) (by omega) (by omega)).2; omega) (by omega))
  have s2 := Lib.hid (fun w => scaled31 (g % 256 * 257) (a % 256) 255 w (mul_bd (g % 256 * 257) (a % 256) 65535 255 (by omega) (by omega) (by omega) (by omega)).1 (by have := (mul_bd (g % 256 * 257) (a % 256) 65535 255 (by omega) (by omega) (by omega) (by omega)).2; omega) (by omega))
  have s3 := Lib.hid (fun w => scaled31 (b % 256 * 257) (a % 256) 255 w (mul_bd (b % 256 * 257) (a % 256) 65535 255 (by omega) (by omega) (by omega) (by omega)).1 (by have := (mul_bd (b % 256 * 257) (a % 256) 65535 255 (by omega) (by omega) (by omega) (by omega)).2; omega) (by omega))
  have v1 := Lib.hid (fun w => wide30 r w hr)
  have v2 := Lib.hid (fun w => wide30 g w hg)
  have v3 := Lib.hid (fun w => wide30 b w hb)
  have v4 := Lib.hid (fun w => wide30 a w ha)
  have q3 : IntKind.u32.wrap (a % 256) = a % 256 := IntWalk.u32_in _ (by omega)
  go_enter Try.func18, Try.ntmps18
  go_wp2_with fail
  generalize hW : (w.alloc (Obj.cells #[.int .i64 3, .int .u16 r, .int .u16 g, .int .u16 b, .int .u16 a] 24)).alloc (Obj.cells #[.int .u32 0, .int .u32 0, .int .u32 0, .int .u32 0] 31) = W
  obtain ⟨kc, kr, hB⟩ := told_start w _ _ _ _ _ W hW
  clear hW
  obtain ⟨t0, t1, t2, t3, t4, t5, t6, t7⟩ := kr
  obtain ⟨c0, c1, c2, c3, c4⟩ := kc
  refine wp_region_still_tail 19 (by kernel_rfl) (by kernel_rfl) ?_
  simp only [List.take_succ_cons, List.take_zero, List.drop_succ_cons, List.drop_zero]
  change wpStill _ _ W.drew (fun a' => wpList _ _ _ _ a' W.drew) _ _
  repeat (first | still_step | (refine wpStill_step (fun K hK => ?_); go_simp; (first | (with_reducible refine ⟨_, s1.out _, hK _ ?_⟩) | (with_reducible refine ⟨_, s2.out _, hK _ ?_⟩) | (with_reducible refine ⟨_, s3.out _, hK _ ?_⟩) | (with_reducible refine ⟨_, v1.out _, hK _ ?_⟩) | (with_reducible refine ⟨_, v2.out _, hK _ ?_⟩) | (with_reducible refine ⟨_, v3.out _, hK _ ?_⟩) | (with_reducible refine ⟨_, v4.out _, hK _ ?_⟩)); clear hK K))
  refine wpStill_nil ?_
  clear c0 c1 c2 c3 c4
  go_wp2_with fail
  refine bodyPost_ret (v := .tuple #[.agg #[.int .u32 (r % 256 * 257 * (a % 256) / 255), .int .u32 (g % 256 * 257 * (a % 256) / 255), .int .u32 (b % 256 * 257 * (a % 256) / 255), .int .u32 (a % 256 * 257)], .bool true]) (by simp [results, Try.results18, go_sem, t0, t1, t2, t3]) rfl ⟨rfl, ?_⟩
  exact ((((hB.setCell (by simp) _).setCell (by simp) _).setCell (by simp) _).setCell (by simp) _).drew

set_option maxHeartbeats 1000000 in
theorem scaled18_0 (k r g b a : Int) (w : World) (k1 : (k == 1) = false) (k3 : (k == 3) = false) :
    Calls Try.prog 18 #[colV k r g b a] w (Told 0 0 0 0 false w) := by
  go_enter Try.func18, Try.ntmps18
  go_wp2
  refine bodyPost_ret (v := .tuple #[.agg #[.int .u32 0, .int .u32 0, .int .u32 0, .int .u32 0], .bool false]) (by simp [results, Try.results18, go_sem]) rfl ⟨rfl, ?_⟩
  exact ((Below.refl _ _).alloc (Nat.le_refl _) _).alloc (by simp) _

set_option maxHeartbeats 1000000 in
theorem whole19_13 (k r g b a : Int) (w : World) (hk : k = 1 ∨ k = 3) :
    Calls Try.prog 19 #[colV k r g b a] w (Told 0 0 0 0 false w) := by
  rcases hk with rfl | rfl
  all_goals
    go_enter Try.func19, Try.ntmps19
    go_wp2
    refine bodyPost_ret (v := .tuple #[.agg #[.int .u32 0, .int .u32 0, .int .u32 0, .int .u32 0], .bool false]) (by simp [results, Try.results19, go_sem]) rfl ⟨rfl, ?_⟩
    exact ((Below.refl _ _).alloc (Nat.le_refl _) _).alloc (by simp) _

set_option maxHeartbeats 1000000 in
theorem whole19_2 (r g b a : Int) (w : World) (hr : 0 ≤ r) (hg : 0 ≤ g) (hb : 0 ≤ b) (ha : 0 ≤ a) :
    Calls Try.prog 19 #[colV 2 r g b a] w (Told (r % 256 * 257) (g % 256 * 257) (b % 256 * 257) (a % 256 * 257) true w) := by
  have v1 := Lib.hid (fun w => wide30 r w hr)
  have v2 := Lib.hid (fun w => wide30 g w hg)
  have v3 := Lib.hid (fun w => wide30 b w hb)
  have v4 := Lib.hid (fun w => wide30 a w ha)
  go_enter Try.func19, Try.ntmps19
  go_wp2_with fail
  generalize hW : (w.alloc (Obj.cells #[.int .i64 2, .int .u16 r, .int .u16 g, .int .u16 b, .int .u16 a] 24)).alloc (Obj.cells #[.int .u32 0, .int .u32 0, .int .u32 0, .int .u32 0] 31) = W
  obtain ⟨kc, kr, hB⟩ := told_start w _ _ _ _ _ W hW
  clear hW
  obtain ⟨t0, t1, t2, t3, t4, t5, t6, t7⟩ := kr
  obtain ⟨c0, c1, c2, c3, c4⟩ := kc
  refine wp_region_still_tail 13 (by kernel_rfl) (by kernel_rfl) ?_
  simp only [List.take_succ_cons, List.take_zero, List.drop_succ_cons, List.drop_zero]
  change wpStill _ _ W.drew (fun a' => wpList _ _ _ _ a' W.drew) _ _
  repeat (first | still_step | (refine wpStill_step (fun K hK => ?_); go_simp; (first | (with_reducible refine ⟨_, v1.out _, hK _ ?_⟩) | (with_reducible refine ⟨_, v2.out _, hK _ ?_⟩) | (with_reducible refine ⟨_, v3.out _, hK _ ?_⟩) | (with_reducible refine ⟨_, v4.out _, hK _ ?_⟩)); clear hK K))
  refine wpStill_nil ?_
  clear c0 c1 c2 c3 c4
  go_wp2_with fail
  refine bodyPost_ret (v := .tuple #[.agg #[.int .u32 (r % 256 * 257), .int .u32 (g % 256 * 257), .int .u32 (b % 256 * 257), .int .u32 (a % 256 * 257)], .bool true]) (by simp [results, Try.results19, go_sem, t0, t1, t2, t3]) rfl ⟨rfl, ?_⟩
  exact ((((hB.setCell (by simp) _).setCell (by simp) _).setCell (by simp) _).setCell (by simp) _).drew

set_option maxHeartbeats 1000000 in
theorem whole19_4 (r g b a : Int) (w : World) (hr : 0 ≤ r) (hr' : r ≤ 65535) :
    Calls Try.prog 19 #[colV 4 r g b a] w (Told r r r 65535 true w) := by
  go_enter Try.func19, Try.ntmps19
  go_wp2
  refine bodyPost_ret (v := .tuple #[.agg #[.int .u32 r, .int .u32 r, .int .u32 r, .int .u32 65535], .bool true]) (by simp [results, Try.results19, go_sem]) rfl ⟨rfl, ?_⟩
  exact ((Below.refl _ _).alloc (Nat.le_refl _) _).alloc (by simp) _

set_option maxHeartbeats 1000000 in
theorem whole19_5 (r g b a : Int) (w : World) (ha : 0 ≤ a) (ha' : a ≤ 65535) :
    Calls Try.prog 19 #[colV 5 r g b a] w (Told a a a a true w) := by
  go_enter Try.func19, Try.ntmps19
  go_wp2
  refine bodyPost_ret (v := .tuple #[.agg #[.int .u32 a, .int .u32 a, .int .u32 a, .int .u32 a], .bool true]) (by simp [results, Try.results19, go_sem]) rfl ⟨rfl, ?_⟩
  exact ((Below.refl _ _).alloc (Nat.le_refl _) _).alloc (by simp) _

set_option maxHeartbeats 1000000 in
theorem whole19_0 (k r g b a : Int) (w : World) (k1 : (k == 1) = false) (k2 : (k == 2) = false) (k3 : (k == 3) = false) (k4 : (k == 4) = false) (k5 : (k == 5) = false) (hr : 0 ≤ r) (hr' : r ≤ 65535) (hg : 0 ≤ g) (hg' : g ≤ 65535) (hb : 0 ≤ b) (hb' : b ≤ 65535) (ha : 0 ≤ a) (ha' : a ≤ 65535) :
    Calls Try.prog 19 #[colV k r g b a] w (Told r g b a true w) := by
  go_enter Try.func19, Try.ntmps19
  go_wp2
  refine bodyPost_ret (v := .tuple #[.agg #[.int .u32 r, .int .u32 g, .int .u32 b, .int .u32 a], .bool true]) (by simp [results, Try.results19, go_sem]) rfl ⟨rfl, ?_⟩
  exact ((Below.refl _ _).alloc (Nat.le_refl _) _).alloc (by simp) _

end Go.Proofs.Ytcldabiipniecaa
