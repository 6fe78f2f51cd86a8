/- The colour of the library that Color.paint makes, for every Color: an interface value whose method RGBA returns the values vR, vG, vB, vA. -/
import Derived.Test.YtcldabiipniecaaColors
namespace Go.Proofs.Ytcldabiipniecaa
open Go.RowKit

/-- a colour's value -/
abbrev colV (k r g b a : Int) : Value := .agg #[.int .i64 k, .int .u16 r, .int .u16 g, .int .u16 b, .int .u16 a]

/-- the values that a colour tells -/
def vX (k x a : Int) : Int := if k = 1 then x * a / 65535 else if k = 2 then x % 256 * 257 else if k = 3 then x % 256 * 257 * (a % 256) / 255 else x
def vR (k r a : Int) : Int := if k = 5 then a else vX k r a
def vG (k r g a : Int) : Int := if k = 4 then r else if k = 5 then a else vX k g a
def vA (k a : Int) : Int := if k = 2 then a % 256 * 257 else if k = 3 then a % 256 * 257 else if k = 4 then 65535 else a

/-- the dynamic type T with the value v has function f as its method RGBA, and that returns the four numbers -/
def Paints (T : TypeId) (v : Value) (f : Nat) (R G B A : Int) : Prop :=
  (∀ w, (method 192 T v "RGBA").run Try.prog w = .ok (f, v) w) ∧ (∀ w, (callFunc f #[v]).run Try.prog w = .ok (.enter f #[v]) w) ∧ ∀ w, Calls Try.prog f #[v] w (Four R G B A w)

def Made (T : TypeId) (v : Value) (w : World) (e : Ending) (w' : World) : Prop :=
  e = .returned (.iface T v) ∧ Below w.heap.size w w'

theorem ent57 (v : Value) (w : World) : (callFunc 57 #[v]).run Try.prog w = .ok (.enter 57 #[v]) w := by kernel_rfl
theorem meth57 (r g b a : Int) (w : World) : (method 192 66 (.agg #[.int .u16 r, .int .u16 g, .int .u16 b, .int .u16 a]) "RGBA").run Try.prog w = .ok (57, .agg #[.int .u16 r, .int .u16 g, .int .u16 b, .int .u16 a]) w := by kernel_rfl
theorem ent58 (v : Value) (w : World) : (callFunc 58 #[v]).run Try.prog w = .ok (.enter 58 #[v]) w := by kernel_rfl
theorem meth58 (r g b a : Int) (w : World) : (method 192 68 (.agg #[.int .u8 r, .int .u8 g, .int .u8 b, .int .u8 a]) "RGBA").run Try.prog w = .ok (58, .agg #[.int .u8 r, .int .u8 g, .int .u8 b, .int .u8 a]) w := by kernel_rfl
theorem ent59 (v : Value) (w : World) : (callFunc 59 #[v]).run Try.prog w = .ok (.enter 59 #[v]) w := by kernel_rfl
theorem meth59 (r g b a : Int) (w : World) : (method 192 69 (.agg #[.int .u8 r, .int .u8 g, .int .u8 b, .int .u8 a]) "RGBA").run Try.prog w = .ok (59, .agg #[.int .u8 r, .int .u8 g, .int .u8 b, .int .u8 a]) w := by kernel_rfl
theorem ent60 (v : Value) (w : World) : (callFunc 60 #[v]).run Try.prog w = .ok (.enter 60 #[v]) w := by kernel_rfl
theorem meth60 (r : Int) (w : World) : (method 192 71 (.agg #[.int .u16 r]) "RGBA").run Try.prog w = .ok (60, .agg #[.int .u16 r]) w := by kernel_rfl
theorem ent61 (v : Value) (w : World) : (callFunc 61 #[v]).run Try.prog w = .ok (.enter 61 #[v]) w := by kernel_rfl
theorem meth61 (r : Int) (w : World) : (method 192 73 (.agg #[.int .u16 r]) "RGBA").run Try.prog w = .ok (61, .agg #[.int .u16 r]) w := by kernel_rfl
theorem ent56 (v : Value) (w : World) : (callFunc 56 #[v]).run Try.prog w = .ok (.enter 56 #[v]) w := by kernel_rfl
theorem meth56 (r g b a : Int) (w : World) : (method 192 56 (.agg #[.int .u16 r, .int .u16 g, .int .u16 b, .int .u16 a]) "RGBA").run Try.prog w = .ok (56, .agg #[.int .u16 r, .int .u16 g, .int .u16 b, .int .u16 a]) w := by kernel_rfl

set_option maxHeartbeats 400000 in
theorem paint_1 (r g b a : Int) (w : World) :
    Calls Try.prog 26 #[colV 1 r g b a] w (Made 66 (.agg #[.int .u16 r, .int .u16 g, .int .u16 b, .int .u16 a]) w) := by
  go_enter Try.func26, Try.ntmps26
  go_wp2
  go_ret
  exact ⟨rfl, (Below.refl _ _).alloc (Nat.le_refl _) _⟩
set_option maxHeartbeats 400000 in
theorem paint_2 (r g b a : Int) (w : World) :
    Calls Try.prog 26 #[colV 2 r g b a] w (Made 68 (.agg #[.int .u8 (r % 256), .int .u8 (g % 256), .int .u8 (b % 256), .int .u8 (a % 256)]) w) := by
  go_enter Try.func26, Try.ntmps26
  go_wp2
  go_ret
  exact ⟨rfl, (Below.refl _ _).alloc (Nat.le_refl _) _⟩
set_option maxHeartbeats 400000 in
theorem paint_3 (r g b a : Int) (w : World) :
    Calls Try.prog 26 #[colV 3 r g b a] w (Made 69 (.agg #[.int .u8 (r % 256), .int .u8 (g % 256), .int .u8 (b % 256), .int .u8 (a % 256)]) w) := by
  go_enter Try.func26, Try.ntmps26
  go_wp2
  go_ret
  exact ⟨rfl, (Below.refl _ _).alloc (Nat.le_refl _) _⟩
set_option maxHeartbeats 400000 in
theorem paint_4 (r g b a : Int) (w : World) :
    Calls Try.prog 26 #[colV 4 r g b a] w (Made 71 (.agg #[.int .u16 r]) w) := by
  go_enter Try.func26, Try.ntmps26
  go_wp2
  go_ret
  exact ⟨rfl, (Below.refl _ _).alloc (Nat.le_refl _) _⟩
set_option maxHeartbeats 400000 in
theorem paint_5 (r g b a : Int) (w : World) :
    Calls Try.prog 26 #[colV 5 r g b a] w (Made 73 (.agg #[.int .u16 a]) w) := by
  go_enter Try.func26, Try.ntmps26
  go_wp2
  go_ret
  exact ⟨rfl, (Below.refl _ _).alloc (Nat.le_refl _) _⟩
set_option maxHeartbeats 400000 in
theorem paint_0 (k r g b a : Int) (w : World) (k1 : (k == 1) = false) (k2 : (k == 2) = false) (k3 : (k == 3) = false) (k4 : (k == 4) = false) (k5 : (k == 5) = false) :
    Calls Try.prog 26 #[colV k r g b a] w (Made 56 (.agg #[.int .u16 r, .int .u16 g, .int .u16 b, .int .u16 a]) w) := by
  go_enter Try.func26, Try.ntmps26
  go_wp2
  go_ret
  exact ⟨rfl, (Below.refl _ _).alloc (Nat.le_refl _) _⟩

/-- every colour paints -/
theorem color_of (k r g b a : Int) (hr : 0 ≤ r) (hr' : r ≤ 65535) (hg : 0 ≤ g) (hg' : g ≤ 65535) (hb : 0 ≤ b) (hb' : b ≤ 65535) (ha : 0 ≤ a) (ha' : a ≤ 65535) :
    ∃ T v f, (∀ w, Calls Try.prog 26 #[colV k r g b a] w (Made T v w)) ∧ Paints T v f (vR k r a) (vG k r g a) (vG k r b a) (vA k a) := by
  by_cases h1 : k = 1
  · subst h1
    exact ⟨_, _, 57, paint_1 r g b a, meth57 r g b a, ent57 _, fun w => m57 r g b a w hr hr' hg hg' hb hb' ha ha'⟩
  by_cases h2 : k = 2
  · subst h2
    exact ⟨_, _, 58, paint_2 r g b a, meth58 _ _ _ _, ent58 _, fun w => m58 _ _ _ _ w (by omega) (by omega) (by omega) (by omega) (by omega) (by omega) (by omega) (by omega)⟩
  by_cases h3 : k = 3
  · subst h3
    exact ⟨_, _, 59, paint_3 r g b a, meth59 _ _ _ _, ent59 _, fun w => m59 _ _ _ _ w (by omega) (by omega) (by omega) (by omega) (by omega) (by omega) (by omega) (by omega)⟩
  by_cases h4 : k = 4
  · subst h4
    exact ⟨_, _, 60, paint_4 r g b a, meth60 _, ent60 _, fun w => m60 _ w hr hr'⟩
  by_cases h5 : k = 5
  · subst h5
    exact ⟨_, _, 61, paint_5 r g b a, meth61 _, ent61 _, fun w => m61 _ w ha ha'⟩
  · refine ⟨_, _, 56, fun w => paint_0 k r g b a w (by simp [h1]) (by simp [h2]) (by simp [h3]) (by simp [h4]) (by simp [h5]), meth56 _ _ _ _, ent56 _, fun w => ?_⟩
    have e1 : vR k r a = r := by simp [vR, vX, h1, h2, h3, h5]
    have e2 : vG k r g a = g := by simp [vG, vX, h1, h2, h3, h4, h5]
    have e3 : vG k r b a = b := by simp [vG, vX, h1, h2, h3, h4, h5]
    have e4 : vA k a = a := by simp [vA, h2, h3, h4]
    rw [e1, e2, e3, e4]
    exact m56 r g b a w hr hr' hg hg' hb hb' ha ha'

end Go.Proofs.Ytcldabiipniecaa
