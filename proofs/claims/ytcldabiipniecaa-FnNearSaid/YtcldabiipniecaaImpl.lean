/- Contracts of the thin package's functions on uniform images, over a colour whose method RGBA has a contract. -/
import Derived.Test.YtcldabiipniecaaUni
import Derived.Deep.RegionWith
import Derived.Deep.RegionHeld3
namespace Go.Proofs.Ytcldabiipniecaa
open Go.RowKit

/-- 'c' is painted as T, v -/
def PaintedAs (c : Value) (T : TypeId) (v : Value) : Prop := ∀ w, Calls Try.prog 26 #[c] w (Made T v w)
/-- the answer is four numbers as a struct, and nothing below was changed -/
def Vals (R G B A : Int) (w : World) (e : Ending) (w' : World) : Prop :=
  e = .returned (.agg #[.int .u32 R, .int .u32 G, .int .u32 B, .int .u32 A]) ∧ Below w.heap.size w w'

set_option maxHeartbeats 400000 in
theorem uni27 (b : Nat) (w : World) :
    Calls Try.prog 27 #[.pointer (some ⟨b, 0, none⟩)] w (fun e w' => e = .returned (.agg #[.int .i64 (-1000000000), .int .i64 (-1000000000), .int .i64 1000000000, .int .i64 1000000000]) ∧ Below w.heap.size w w') := by
  go_enter Try.func27, Try.ntmps27
  go_wp2
  refine bodyPost_ret (v := .agg #[.int .i64 (-1000000000), .int .i64 (-1000000000), .int .i64 1000000000, .int .i64 1000000000]) (by simp [results, Try.results27, go_sem]) rfl ⟨rfl, ?_⟩
  exact (Below.refl _ _).alloc (Nat.le_refl _) _

/-- two steps that change nothing below -/
theorem two {W w1 w2 : World} {o : Obj} (h1 : Below W.heap.size W w1) (h2 : Below (w1.alloc o).heap.size (w1.alloc o) w2) : Below W.heap.size W w2 :=
  (h1.alloc h1.size o).trans (h2.mono (by have := h1.size; simp; omega))

set_option maxHeartbeats 400000 in
theorem impl16 (T : TypeId) (v : Value) (f : Nat) (R G B A : Int) (c0 c1 c2 c3 c4 : Value) (w : World)
   (hp : PaintedAs (.agg #[c0, c1, c2, c3, c4]) T v) (hP : Paints T v f R G B A) :
    Calls Try.prog 16 #[.agg #[c0, c1, c2, c3, c4]] w (Vals R G B A w) := by
  go_enter Try.func16, Try.ntmps16
  go_wp2_with fail
  refine (hp _).mono ?_; rintro e w1 ⟨rfl, hb1⟩
  go_wp2_with fail
  refine (new25 T v _).mono ?_; rintro e w2 ⟨rfl, rfl⟩
  go_wp2_with fail
  refine (uni28 T v f R G B A _ _ (by simp) hP).mono ?_; rintro e w2 ⟨rfl, hb2⟩
  have hb := two hb1 hb2; clear hb1 hb2
  obtain ⟨hc2, hf2⟩ := bcell hb
  go_wp2_with fail
  refine bodyPost_ret (v := .agg #[.int .u32 R, .int .u32 G, .int .u32 B, .int .u32 A]) (by simp [results, Try.results16, go_sem, hc2]) rfl ⟨rfl, ?_⟩
  exact (((((((Below.refl _ _).alloc (Nat.le_refl _) _).alloc (by simp) _).trans (hb.mono (by simp; omega))).setCell (by simp) _).setCell (by simp) _).setCell (by simp) _).setCell (by simp) _

set_option maxHeartbeats 400000 in
theorem impl15 (T : TypeId) (v : Value) (c0 c1 c2 c3 c4 : Value) (w : World)
   (hp : PaintedAs (.agg #[c0, c1, c2, c3, c4]) T v) :
    Calls Try.prog 15 #[.agg #[c0, c1, c2, c3, c4]] w (fun e w' => e = .returned (.tuple #[.int .i64 (-1000000000), .int .i64 (-1000000000), .int .i64 1000000000, .int .i64 1000000000]) ∧ Below w.heap.size w w') := by
  go_enter Try.func15, Try.ntmps15
  go_wp2_with fail
  refine (hp _).mono ?_; rintro e w1 ⟨rfl, hb1⟩
  go_wp2_with fail
  refine (new25 T v _).mono ?_; rintro e w2 ⟨rfl, rfl⟩
  go_wp2_with fail
  refine (uni27 _ _).mono ?_; rintro e w2 ⟨rfl, hb2⟩
  have hb := two hb1 hb2; clear hb1 hb2
  go_wp2_with fail
  go_quiet (fail)
  go_wp2
  refine bodyPost_ret (v := .tuple #[.int .i64 (-1000000000), .int .i64 (-1000000000), .int .i64 1000000000, .int .i64 1000000000]) (by simp [results, Try.results15, go_sem]) rfl ⟨rfl, ?_⟩
  have hz := hb.size
  simp at hz
  exact below_drewN ((((Below.refl _ _).alloc (Nat.le_refl _) _).trans (hb.mono (by simp))).alloc (by omega) _) _

set_option maxHeartbeats 400000 in
theorem impl20 (T : TypeId) (v : Value) (f : Nat) (R G B A : Int) (c0 c1 c2 c3 c4 : Value) (w : World)
   (hp : PaintedAs (.agg #[c0, c1, c2, c3, c4]) T v) (hP : Paints T v f R G B A) :
    Calls Try.prog 20 #[.agg #[c0, c1, c2, c3, c4]] w (fun e w' => e = .returned (.bool (A == 65535)) ∧ Below w.heap.size w w') := by
  go_enter Try.func20, Try.ntmps20
  go_wp2_with fail
  refine (hp _).mono ?_; rintro e w1 ⟨rfl, hb1⟩
  go_wp2_with fail
  refine (new25 T v _).mono ?_; rintro e w2 ⟨rfl, rfl⟩
  go_wp2_with fail
  refine (uni32 T v f R G B A _ _ (by simp) hP).mono ?_; rintro e w2 ⟨rfl, hb2⟩
  have hb := two hb1 hb2; clear hb1 hb2
  go_wp2_with fail
  go_ret
  exact ⟨rfl, ((Below.refl _ _).alloc (Nat.le_refl _) _).trans (hb.mono (by simp))⟩

/-- two blocks are laid, then a step that changes nothing below, then four stores into the second -/
theorem stored4 {w w2 : World} {o1 o2 : Obj} {a0 a1 a2 a3 : Addr} {u0 u1 u2 u3 : Value} (hb : Below ((w.alloc o1).alloc o2).heap.size ((w.alloc o1).alloc o2) w2)
    (h0 : w.heap.size ≤ a0.block) (h1 : w.heap.size ≤ a1.block) (h2 : w.heap.size ≤ a2.block) (h3 : w.heap.size ≤ a3.block) :
    Below w.heap.size w ((((w2.setCell a0 u0).setCell a1 u1).setCell a2 u2).setCell a3 u3) :=
  (((((((Below.refl _ _).alloc (Nat.le_refl _) _).alloc (by simp) _).trans (hb.mono (by simp; omega))).setCell h0 _).setCell h1 _).setCell h2 _).setCell h3 _

set_option maxHeartbeats 400000 in
theorem impl22 (T : TypeId) (v : Value) (f : Nat) (R G B A x y : Int) (c0 c1 c2 c3 c4 : Value) (w : World)
   (hp : PaintedAs (.agg #[c0, c1, c2, c3, c4]) T v) (hP : Paints T v f R G B A) :
    Calls Try.prog 22 #[.agg #[c0, c1, c2, c3, c4], .int .i64 x, .int .i64 y] w (Vals R G B A w) := by
  go_enter Try.func22, Try.ntmps22
  go_wp2_with fail
  refine (hp _).mono ?_; rintro e w1 ⟨rfl, hb1⟩
  go_wp2_with fail
  refine (new25 T v _).mono ?_; rintro e w2 ⟨rfl, rfl⟩
  go_wp2_with fail
  refine (uni35 T v _ _ _ _ (by simp)).mono ?_; rintro e w2 ⟨rfl, rfl⟩
  go_wp2_with fail
  refine (values34 T v f R G B A _ hP).mono ?_; rintro e w2 ⟨rfl, hb2⟩
  have hb := two hb1 hb2; clear hb1 hb2
  obtain ⟨hc2, hf2⟩ := bcell hb
  go_wp2_with fail
  refine bodyPost_ret (v := .agg #[.int .u32 R, .int .u32 G, .int .u32 B, .int .u32 A]) (by simp [results, Try.results22, go_sem, hc2]) rfl ⟨rfl, ?_⟩
  exact stored4 hb (by simp) (by simp) (by simp) (by simp)

set_option maxHeartbeats 400000 in
theorem impl21 (T : TypeId) (v : Value) (f : Nat) (R G B A x y : Int) (c0 c1 c2 c3 c4 : Value) (w : World)
   (hp : PaintedAs (.agg #[c0, c1, c2, c3, c4]) T v) (hP : Paints T v f R G B A)
    (hr : 0 ≤ R) (hr' : R ≤ 65535) (hg : 0 ≤ G) (hg' : G ≤ 65535) (hB : 0 ≤ B) (hB' : B ≤ 65535) (ha : 0 ≤ A) (ha' : A ≤ 65535) :
    Calls Try.prog 21 #[.agg #[c0, c1, c2, c3, c4], .int .i64 x, .int .i64 y] w (Vals R G B A w) := by
  go_enter Try.func21, Try.ntmps21
  go_wp2_with fail
  refine (hp _).mono ?_; rintro e w1 ⟨rfl, hb1⟩
  go_wp2_with fail
  refine (new25 T v _).mono ?_; rintro e w2 ⟨rfl, rfl⟩
  go_wp2_with fail
  refine (uni33 T v f R G B A _ _ _ _ (by simp) (by simp) hP hr hr' hg hg' hB hB' ha ha').mono ?_; rintro e w2 ⟨rfl, hb2⟩
  have hb := two hb1 hb2; clear hb1 hb2
  have hz : w.heap.size + 1 < w2.heap.size := by have := hb.size; simp at this; omega
  obtain ⟨hc2, hf2⟩ := bcell hb
  go_wp2_with fail
  have hz2 := hb.size
  simp at hz2
  refine bodyPost_ret (v := .agg #[.int .u32 R, .int .u32 G, .int .u32 B, .int .u32 A]) (by simp [results, Try.results21, go_sem, hc2, hz]) rfl ⟨rfl, ?_⟩
  exact (stored4 hb (by simp) (by simp) (by simp) (by simp)).alloc (by simp; omega) _

/-- what is known of the blocks that the call laid, at each later world -/
def Cells10 (n : Nat) (c0 c1 c2 c3 c4 d0 d1 d2 d3 d4 : Value) (w1 : World) : Prop :=
  w1.cell? ⟨n, 0, none⟩ = some c0 ∧ w1.cell? ⟨n, 1, none⟩ = some c1 ∧ w1.cell? ⟨n, 2, none⟩ = some c2 ∧ w1.cell? ⟨n, 3, none⟩ = some c3 ∧ w1.cell? ⟨n, 4, none⟩ = some c4 ∧ w1.cell? ⟨n + 1, 0, none⟩ = some d0 ∧ w1.cell? ⟨n + 1, 1, none⟩ = some d1 ∧ w1.cell? ⟨n + 1, 2, none⟩ = some d2 ∧ w1.cell? ⟨n + 1, 3, none⟩ = some d3 ∧ w1.cell? ⟨n + 1, 4, none⟩ = some d4
def Stores4 (n : Nat) (w1 : World) : Prop :=
  w1.cell? ⟨n + 1 + 1, 0, none⟩ = some (.int .u32 0) ∧ w1.cell? ⟨n + 1 + 1, 1, none⟩ = some (.int .u32 0) ∧ w1.cell? ⟨n + 1 + 1, 2, none⟩ = some (.int .u32 0) ∧ w1.cell? ⟨n + 1 + 1, 3, none⟩ = some (.int .u32 0) ∧ w1.frozen? ⟨n + 1 + 1, 0, none⟩ = false ∧ w1.frozen? ⟨n + 1 + 1, 1, none⟩ = false ∧ w1.frozen? ⟨n + 1 + 1, 2, none⟩ = false ∧ w1.frozen? ⟨n + 1 + 1, 3, none⟩ = false

theorem keeps_of (w : World) (c0 c1 c2 c3 c4 d0 d1 d2 d3 d4 : Value) (w1 : World) (W : World)
    (hW : (((w.alloc (Obj.cells #[c0, c1, c2, c3, c4] 24)).alloc (Obj.cells #[d0, d1, d2, d3, d4] 24)).alloc (Obj.cells #[Value.int IntKind.u32 0, Value.int IntKind.u32 0, Value.int IntKind.u32 0, Value.int IntKind.u32 0] 31)) = W)
    (hb : Below W.heap.size W w1) : Cells10 w.heap.size c0 c1 c2 c3 c4 d0 d1 d2 d3 d4 w1 ∧ Stores4 w.heap.size w1 := by
  have sz : W.heap.size = w.heap.size + 3 := by subst hW; simp
  obtain ⟨hc, hf⟩ := bcell hb
  unfold Cells10 Stores4
  rw [hc _ _ (by omega), hc _ _ (by omega), hc _ _ (by omega), hc _ _ (by omega), hc _ _ (by omega), hc _ _ (by omega), hc _ _ (by omega), hc _ _ (by omega), hc _ _ (by omega), hc _ _ (by omega), hc _ _ (by omega), hc _ _ (by omega), hc _ _ (by omega), hc _ _ (by omega), hf _ _ (by omega), hf _ _ (by omega), hf _ _ (by omega), hf _ _ (by omega)]
  subst hW
  refine ⟨⟨?_, ?_, ?_, ?_, ?_, ?_, ?_, ?_, ?_, ?_⟩, ⟨?_, ?_, ?_, ?_, ?_, ?_, ?_, ?_⟩⟩ <;> simp [go_sem]

theorem cells10_set4 {n : Nat} {c0 c1 c2 c3 c4 d0 d1 d2 d3 d4 : Value} {w1 : World} {u0 u1 u2 u3 : Value} (h : Cells10 n c0 c1 c2 c3 c4 d0 d1 d2 d3 d4 w1) :
    Cells10 n c0 c1 c2 c3 c4 d0 d1 d2 d3 d4 ((((w1.setCell ⟨n + 1 + 1, 0, none⟩ u0).setCell ⟨n + 1 + 1, 1, none⟩ u1).setCell ⟨n + 1 + 1, 2, none⟩ u2).setCell ⟨n + 1 + 1, 3, none⟩ u3) := by
  have hb : Below (n + 2) w1 ((((w1.setCell ⟨n + 1 + 1, 0, none⟩ u0).setCell ⟨n + 1 + 1, 1, none⟩ u1).setCell ⟨n + 1 + 1, 2, none⟩ u2).setCell ⟨n + 1 + 1, 3, none⟩ u3) :=
    ((((Below.refl (n + 2) w1).setCell (Nat.le_refl _) _).setCell (Nat.le_refl _) _).setCell (Nat.le_refl _) _).setCell (Nat.le_refl _) _
  have hc : ∀ b o, b < n + 2 → _ := fun b o hb2 => hb.cell (p := ⟨b, o, none⟩) hb2
  unfold Cells10
  rw [hc _ _ (by omega), hc _ _ (by omega), hc _ _ (by omega), hc _ _ (by omega), hc _ _ (by omega), hc _ _ (by omega), hc _ _ (by omega), hc _ _ (by omega), hc _ _ (by omega), hc _ _ (by omega)]
  exact h

/-- image.NewUniform, told without its block's number -/
def NewAt (T : TypeId) (v : Value) (w : World) (e : Ending) (w' : World) : Prop :=
  ∃ b, e = .returned (.pointer (some ⟨b, 0, none⟩)) ∧ w'.cell? ⟨b, 0, none⟩ = some (.iface T v) ∧ b < w'.heap.size ∧ Below w.heap.size w w'
theorem new25' (T : TypeId) (v : Value) (w : World) : Calls Try.prog 25 #[.iface T v] w (NewAt T v w) :=
  (new25 T v w).mono fun _ _ ⟨he, hw⟩ => ⟨_, he, by subst hw; simp, by subst hw; simp, by subst hw; exact (Below.refl _ _).alloc (Nat.le_refl _) _⟩

theorem below_on {W w1 w2 : World} (h1 : Below W.heap.size W w1) (h2 : Below w1.heap.size w1 w2) : Below W.heap.size W w2 :=
  h1.trans (h2.mono h1.size)

theorem meth36 (b : Nat) (w : World) : (method 192 43 (.pointer (some ⟨b, 0, none⟩)) "Convert").run Try.prog w = .ok (36, .pointer (some ⟨b, 0, none⟩)) w := by kernel_rfl
theorem nil36 (b : Nat) (w : World) : (nilAhead 192 43 (.pointer (some ⟨b, 0, none⟩)) "Convert").run Try.prog w = .ok (some false) w := by kernel_rfl

set_option maxHeartbeats 1000000 in
theorem impl24 (T : TypeId) (v : Value) (f : Nat) (R G B A : Int) (c0 c1 c2 c3 c4 d0 d1 d2 d3 d4 : Value) (T' : TypeId) (v' : Value) (w : World)
   (hp : PaintedAs (.agg #[c0, c1, c2, c3, c4]) T v) (hP : Paints T v f R G B A) (hq : PaintedAs (.agg #[d0, d1, d2, d3, d4]) T' v') :
    Calls Try.prog 24 #[.agg #[c0, c1, c2, c3, c4], .agg #[d0, d1, d2, d3, d4]] w (Vals R G B A w) := by
  have hmc := fun (b : Nat) (w : World) => meth36 b w
  have hnl := fun (b : Nat) (w : World) => nil36 b w
  go_enter Try.func24, Try.ntmps24
  go_wp2_with fail
  generalize hW : (((w.alloc (Obj.cells #[c0, c1, c2, c3, c4] 24)).alloc (Obj.cells #[d0, d1, d2, d3, d4] 24)).alloc
      (Obj.cells #[Value.int IntKind.u32 0, Value.int IntKind.u32 0, Value.int IntKind.u32 0, Value.int IntKind.u32 0] 31)) = W
  have KK := Lib.hid (fun w1 => keeps_of w c0 c1 c2 c3 c4 d0 d1 d2 d3 d4 w1 W hW)
  have hB : Below w.heap.size w W := by subst hW; exact (((Below.refl _ _).alloc (Nat.le_refl _) _).alloc (by simp) _).alloc (by simp; omega) _
  clear hW
  have k0 := Lib.hid (KK.out W (Below.refl _ _)).1
  go_region_held3 (fun w' => w'.cell? ⟨w.heap.size, 0, none⟩ = some c0 ∧ w'.cell? ⟨w.heap.size, 1, none⟩ = some c1 ∧ w'.cell? ⟨w.heap.size, 2, none⟩ = some c2 ∧ w'.cell? ⟨w.heap.size, 3, none⟩ = some c3 ∧ w'.cell? ⟨w.heap.size, 4, none⟩ = some c4 ∧ w'.cell? ⟨w.heap.size + 1, 0, none⟩ = some d0 ∧ w'.cell? ⟨w.heap.size + 1, 1, none⟩ = some d1 ∧ w'.cell? ⟨w.heap.size + 1, 2, none⟩ = some d2 ∧ w'.cell? ⟨w.heap.size + 1, 3, none⟩ = some d3 ∧ w'.cell? ⟨w.heap.size + 1, 4, none⟩ = some d4) (first | exact k0.out | exact k1.out | exact k2.out | exact k3.out | exact k4.out | exact cells10_set4 k4.out)
    (first
    | (go_at_call_of 26 (Value.agg #[c0, c1, c2, c3, c4]); refine (hp _).mono ?_; rintro e w1 ⟨rfl, hb1⟩; have kb1 := below_on ((Below.refl _ W).drew) hb1; have k1 := Lib.hid (KK.out w1 kb1).1; clear k0)
    | (go_at_call 25; refine (new25' _ _ _).mono ?_; rintro e w2 ⟨b, rfl, cb, zb, hb2⟩; have kb2 := below_on kb1 hb2; have k2 := Lib.hid (KK.out w2 kb2).1; clear k1)
    | (go_at_call_of 26 (Value.agg #[d0, d1, d2, d3, d4]); refine (hq _).mono ?_; rintro e w3 ⟨rfl, hb3⟩; have cb3 := (hb3.cell (p := ⟨b, 0, none⟩) zb).trans cb; have kb3 := below_on kb2 hb3; have k3 := Lib.hid (KK.out w3 kb3).1; clear k2)
    | (go_at_call 37; refine (uni37 _ _).mono ?_; rintro e w4 ⟨rfl, rfl⟩)
    | (go_at_call 36; refine (uni36 _ _ _ _ _ cb3).mono ?_; rintro e w4 ⟨rfl, rfl⟩)
    | (go_at_call 34; refine (values34 T v f R G B A _ hP).mono ?_; rintro e w4 ⟨rfl, hb4⟩; have kb4 := below_on kb3 hb4; have k4 := Lib.hid (KK.out w4 kb4).1; obtain ⟨t0, t1, t2, t3, t4, t5, t6, t7⟩ := (KK.out w4 kb4).2; clear k3))
  all_goals
    clear KK
    go_wp2_with fail
    refine bodyPost_ret (v := .agg #[.int .u32 R, .int .u32 G, .int .u32 B, .int .u32 A]) (by simp [results, Try.results24, go_sem, t0, t1, t2, t3]) rfl ⟨rfl, ?_⟩
    exact ((((hB.trans (kb4.mono hB.size)).setCell (by simp; omega) _).setCell (by simp; omega) _).setCell (by simp; omega) _).setCell (by simp; omega) _

set_option maxHeartbeats 1000000 in
theorem impl23 (T : TypeId) (v : Value) (f : Nat) (R G B A : Int) (c0 c1 c2 c3 c4 d0 d1 d2 d3 d4 : Value) (T' : TypeId) (v' : Value) (w : World)
   (hp : PaintedAs (.agg #[c0, c1, c2, c3, c4]) T v) (hP : Paints T v f R G B A) (hq : PaintedAs (.agg #[d0, d1, d2, d3, d4]) T' v') :
    Calls Try.prog 23 #[.agg #[c0, c1, c2, c3, c4], .agg #[d0, d1, d2, d3, d4]] w (Vals R G B A w) := by
  go_enter Try.func23, Try.ntmps23
  go_wp2_with fail
  generalize hW : (((w.alloc (Obj.cells #[c0, c1, c2, c3, c4] 24)).alloc (Obj.cells #[d0, d1, d2, d3, d4] 24)).alloc
      (Obj.cells #[Value.int IntKind.u32 0, Value.int IntKind.u32 0, Value.int IntKind.u32 0, Value.int IntKind.u32 0] 31)) = W
  have KK := Lib.hid (fun w1 => keeps_of w c0 c1 c2 c3 c4 d0 d1 d2 d3 d4 w1 W hW)
  have hB : Below w.heap.size w W := by subst hW; exact (((Below.refl _ _).alloc (Nat.le_refl _) _).alloc (by simp) _).alloc (by simp; omega) _
  clear hW
  have k0 := Lib.hid (KK.out W (Below.refl _ _)).1
  go_region_held3 (fun w' => w'.cell? ⟨w.heap.size, 0, none⟩ = some c0 ∧ w'.cell? ⟨w.heap.size, 1, none⟩ = some c1 ∧ w'.cell? ⟨w.heap.size, 2, none⟩ = some c2 ∧ w'.cell? ⟨w.heap.size, 3, none⟩ = some c3 ∧ w'.cell? ⟨w.heap.size, 4, none⟩ = some c4 ∧ w'.cell? ⟨w.heap.size + 1, 0, none⟩ = some d0 ∧ w'.cell? ⟨w.heap.size + 1, 1, none⟩ = some d1 ∧ w'.cell? ⟨w.heap.size + 1, 2, none⟩ = some d2 ∧ w'.cell? ⟨w.heap.size + 1, 3, none⟩ = some d3 ∧ w'.cell? ⟨w.heap.size + 1, 4, none⟩ = some d4) (first | exact k0.out | exact k1.out | exact k2.out | exact k3.out | exact k4.out | exact cells10_set4 k4.out)
    (first
    | (go_at_call_of 26 (Value.agg #[c0, c1, c2, c3, c4]); refine (hp _).mono ?_; rintro e w1 ⟨rfl, hb1⟩; have kb1 := below_on ((Below.refl _ W).drew) hb1; have k1 := Lib.hid (KK.out w1 kb1).1; clear k0)
    | (go_at_call 25; refine (new25' _ _ _).mono ?_; rintro e w2 ⟨b, rfl, cb, zb, hb2⟩; have kb2 := below_on kb1 hb2; have k2 := Lib.hid (KK.out w2 kb2).1; clear k1)
    | (go_at_call_of 26 (Value.agg #[d0, d1, d2, d3, d4]); refine (hq _).mono ?_; rintro e w3 ⟨rfl, hb3⟩; have cb3 := (hb3.cell (p := ⟨b, 0, none⟩) zb).trans cb; have kb3 := below_on kb2 hb3; have k3 := Lib.hid (KK.out w3 kb3).1; clear k2)
    | (go_at_call 36; refine (uni36 _ _ _ _ _ cb3).mono ?_; rintro e w4 ⟨rfl, rfl⟩)
    | (go_at_call 34; refine (values34 T v f R G B A _ hP).mono ?_; rintro e w4 ⟨rfl, hb4⟩; have kb4 := below_on kb3 hb4; have k4 := Lib.hid (KK.out w4 kb4).1; obtain ⟨t0, t1, t2, t3, t4, t5, t6, t7⟩ := (KK.out w4 kb4).2; clear k3))
  clear KK
  go_wp2_with fail
  refine bodyPost_ret (v := .agg #[.int .u32 R, .int .u32 G, .int .u32 B, .int .u32 A]) (by simp [results, Try.results23, go_sem, t0, t1, t2, t3]) rfl ⟨rfl, ?_⟩
  exact ((((hB.trans (kb4.mono hB.size)).setCell (by simp; omega) _).setCell (by simp; omega) _).setCell (by simp; omega) _).setCell (by simp; omega) _
end Go.Proofs.Ytcldabiipniecaa
