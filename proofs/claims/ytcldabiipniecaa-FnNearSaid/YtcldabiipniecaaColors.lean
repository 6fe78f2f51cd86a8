/- The values that the library's colours tell of themselves (RGBA of the six kinds that Color.paint makes): each contract says what the method returns, and that nothing which was there is changed. No condition but the fields' ranges. -/
import Derived.Test.YtcldabiipniecaaRows
import Derived.WalkKit
import Derived.WalkSpells
import Derived.WalkLawsBesides
import Derived.Deep.QuietTactic
import Derived.BigQuiet
import Derived.Lib.Hide
namespace Go.Proofs.Ytcldabiipniecaa
open Go.RowKit

theorem or257 (x : Int) (h : 0 ≤ x) (h' : x ≤ 255) : bits BinOp.or IntKind.u32 x (x * 256) = x * 257 := by
  obtain ⟨n, rfl⟩ := Int.eq_ofNat_of_zero_le h
  have hn : n < 256 := by omega
  have hall : ∀ m : Fin 256, bits BinOp.or IntKind.u32 ((m.val : Nat) : Int) (((m.val : Nat) : Int) * 256) = ((m.val : Nat) : Int) * 257 := by decide +kernel
  exact hall ⟨n, hn⟩

theorem mul_bd (x a m n : Int) (h : 0 ≤ x) (h' : x ≤ m) (ha : 0 ≤ a) (ha' : a ≤ n) : 0 ≤ x * a ∧ x * a ≤ m * n :=
  ⟨Int.mul_nonneg h ha, Int.mul_le_mul h' ha' ha (by omega)⟩

theorem below_drewN {B : Nat} {w w' : World} (h : Below B w w') (n : Nat) : Below B w (w'.drewN n) := by
  induction n with
  | zero => exact h
  | succ n ih => exact ih.drew

/-- 'e' is the four numbers, and nothing below was changed. -/
def Four (R G B A : Int) (w : World) (e : Ending) (w' : World) : Prop :=
  e = .returned (.tuple #[.int .u32 R, .int .u32 G, .int .u32 B, .int .u32 A]) ∧ Below w.heap.size w w'

set_option maxHeartbeats 400000 in
theorem m57 (r g b a : Int) (w : World) (hr : 0 ≤ r) (hr' : r ≤ 65535) (hg : 0 ≤ g) (hg' : g ≤ 65535) (hb : 0 ≤ b) (hb' : b ≤ 65535) (ha : 0 ≤ a) (ha' : a ≤ 65535) :
    Calls Try.prog 57 #[.agg #[.int .u16 r, .int .u16 g, .int .u16 b, .int .u16 a]] w (Four (r * a / 65535) (g * a / 65535) (b * a / 65535) (a) w) := by
  have pr := mul_bd r a 65535 65535 hr hr' ha ha'
  obtain ⟨pr0, pr1⟩ := pr
  have qr : r * a % 4294967296 = r * a := by omega
  have pg := mul_bd g a 65535 65535 hg hg' ha ha'
  obtain ⟨pg0, pg1⟩ := pg
  have qg : g * a % 4294967296 = g * a := by omega
  have pb := mul_bd b a 65535 65535 hb hb' ha ha'
  obtain ⟨pb0, pb1⟩ := pb
  have qb : b * a % 4294967296 = b * a := by omega
  go_enter Try.func57, Try.ntmps57
  go_wp2
  exact bodyPost_ret (v := .tuple #[.int .u32 (r * a / 65535), .int .u32 (g * a / 65535), .int .u32 (b * a / 65535), .int .u32 (a)]) (by simp [results, Try.results57, go_sem]) rfl ⟨rfl, (Below.refl _ _).alloc (Nat.le_refl _) _⟩

set_option maxHeartbeats 400000 in
theorem m56 (r g b a : Int) (w : World) (hr : 0 ≤ r) (hr' : r ≤ 65535) (hg : 0 ≤ g) (hg' : g ≤ 65535) (hb : 0 ≤ b) (hb' : b ≤ 65535) (ha : 0 ≤ a) (ha' : a ≤ 65535) :
    Calls Try.prog 56 #[.agg #[.int .u16 r, .int .u16 g, .int .u16 b, .int .u16 a]] w (Four (r) (g) (b) (a) w) := by
  go_enter Try.func56, Try.ntmps56
  go_wp2
  go_quiet (fail)
  go_wp2
  exact bodyPost_ret (v := .tuple #[.int .u32 (r), .int .u32 (g), .int .u32 (b), .int .u32 (a)]) (by simp [results, Try.results56, go_sem]) rfl ⟨rfl, below_drewN ((Below.refl _ _).alloc (Nat.le_refl _) _) _⟩

set_option maxHeartbeats 400000 in
theorem m58 (r g b a : Int) (w : World) (hr : 0 ≤ r) (hr' : r ≤ 255) (hg : 0 ≤ g) (hg' : g ≤ 255) (hb : 0 ≤ b) (hb' : b ≤ 255) (ha : 0 ≤ a) (ha' : a ≤ 255) :
    Calls Try.prog 58 #[.agg #[.int .u8 r, .int .u8 g, .int .u8 b, .int .u8 a]] w (Four (r * 257) (g * 257) (b * 257) (a * 257) w) := by
  have or := or257 r hr hr'
  have og := or257 g hg hg'
  have ob := or257 b hb hb'
  have oa := or257 a ha ha'
  go_enter Try.func58, Try.ntmps58
  go_wp2
  exact bodyPost_ret (v := .tuple #[.int .u32 (r * 257), .int .u32 (g * 257), .int .u32 (b * 257), .int .u32 (a * 257)]) (by simp [results, Try.results58, go_sem]) rfl ⟨rfl, (Below.refl _ _).alloc (Nat.le_refl _) _⟩

set_option maxHeartbeats 400000 in
theorem m59 (r g b a : Int) (w : World) (hr : 0 ≤ r) (hr' : r ≤ 255) (hg : 0 ≤ g) (hg' : g ≤ 255) (hb : 0 ≤ b) (hb' : b ≤ 255) (ha : 0 ≤ a) (ha' : a ≤ 255) :
    Calls Try.prog 59 #[.agg #[.int .u8 r, .int .u8 g, .int .u8 b, .int .u8 a]] w (Four (r * 257 * a / 255) (g * 257 * a / 255) (b * 257 * a / 255) (a * 257) w) := by
  have or := or257 r hr hr'
  have og := or257 g hg hg'
  have ob := or257 b hb hb'
  have oa := or257 a ha ha'
  have pr := mul_bd (r * 257) a 65535 255 (by omega) (by omega) ha ha'
  obtain ⟨pr0, pr1⟩ := pr
  have qr : r * 257 * a % 4294967296 = r * 257 * a := by omega
  have pg := mul_bd (g * 257) a 65535 255 (by omega) (by omega) ha ha'
  obtain ⟨pg0, pg1⟩ := pg
  have qg : g * 257 * a % 4294967296 = g * 257 * a := by omega
  have pb := mul_bd (b * 257) a 65535 255 (by omega) (by omega) ha ha'
  obtain ⟨pb0, pb1⟩ := pb
  have qb : b * 257 * a % 4294967296 = b * 257 * a := by omega
  go_enter Try.func59, Try.ntmps59
  go_wp2
  exact bodyPost_ret (v := .tuple #[.int .u32 (r * 257 * a / 255), .int .u32 (g * 257 * a / 255), .int .u32 (b * 257 * a / 255), .int .u32 (a * 257)]) (by simp [results, Try.results59, go_sem]) rfl ⟨rfl, (Below.refl _ _).alloc (Nat.le_refl _) _⟩

set_option maxHeartbeats 400000 in
theorem m60 (r : Int) (w : World) (hr : 0 ≤ r) (hr' : r ≤ 65535) :
    Calls Try.prog 60 #[.agg #[.int .u16 r]] w (Four (r) (r) (r) (65535) w) := by
  go_enter Try.func60, Try.ntmps60
  go_wp2
  exact bodyPost_ret (v := .tuple #[.int .u32 (r), .int .u32 (r), .int .u32 (r), .int .u32 (65535)]) (by simp [results, Try.results60, go_sem]) rfl ⟨rfl, (Below.refl _ _).alloc (Nat.le_refl _) _⟩

set_option maxHeartbeats 400000 in
theorem m61 (a : Int) (w : World) (ha : 0 ≤ a) (ha' : a ≤ 65535) :
    Calls Try.prog 61 #[.agg #[.int .u16 a]] w (Four (a) (a) (a) (a) w) := by
  go_enter Try.func61, Try.ntmps61
  go_wp2
  exact bodyPost_ret (v := .tuple #[.int .u32 (a), .int .u32 (a), .int .u32 (a), .int .u32 (a)]) (by simp [results, Try.results61, go_sem]) rfl ⟨rfl, (Below.refl _ _).alloc (Nat.le_refl _) _⟩

end Go.Proofs.Ytcldabiipniecaa
