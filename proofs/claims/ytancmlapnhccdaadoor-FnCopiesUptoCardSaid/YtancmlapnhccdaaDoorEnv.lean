/- The five errors that the thin package tells apart, as they lie in memory, and its function code: the number of an error. -/
import Derived.Test.YtancmlapnhccdaaDoorMem
import Derived.Test.YtancmlapnhccdaaDoorRows
import Derived.WalkKit
import Derived.WalkSpells
import Derived.WalkLawsBesides
import Derived.Deep.QuietTactic
import Derived.BigQuiet
import Derived.Outline
import Derived.LaidEql
namespace Go.Proofs.YtancmlapnhccdaaDoor
open Go.RowKit

/-- an error of errors.New -/
abbrev sent (a : Addr) : Value := .iface 149 (.pointer (some a))
/-- the error with this number -/
def errV (E : Nat → Addr) : Nat → Value
  | 0 => .nilIface
  | k + 1 => sent (E k)

/-- the five errors lie below block B -/
structure Env (w : World) (B : Nat) (E : Nat → Addr) : Prop where
  at_ : ∀ g, g ≤ 4 → w.cell? ⟨g, 0, none⟩ = some (sent (E g))
  row : ∀ g, g ≤ 4 → ∃ c t, w.heap[(E g).block]? = some (.cells c t (0, 0))
  ne : ∀ g g', g ≤ 4 → g' ≤ 4 → g ≠ g' → E g ≠ E g'
  lt : ∀ g, g ≤ 4 → (E g).block < B
  five : 12 ≤ B

theorem Env.below {w w' : World} {B : Nat} {E : Nat → Addr} (h : Env w B E) (hb : Below B w w') : Env w' B E where
  at_ g hg := (hb.cell (p := ⟨g, 0, none⟩) (by have := h.five; simp; omega)).trans (h.at_ g hg)
  row g hg := by
    obtain ⟨c, t, hc⟩ := h.row g hg
    exact ⟨c, t, (hb.block _ (h.lt g hg)).trans hc⟩
  ne := h.ne
  lt := h.lt
  five := h.five
theorem Env.keep {X : Nat → Prop} {w w' : World} {B : Nat} {E : Nat → Addr} (h : Env w B E) (hk : Keep X w w') (hX : ∀ k, X k → B ≤ k) (hB : B ≤ w.heap.size) : Env w' B E := h.below (hk.below hX hB)

theorem Tryd.info149 : ((Tryd.prog.info? 149).map (·.comparable)) = some true := by kernel_rfl
theorem Tryd.info163 : ((Tryd.prog.info? 163).map (·.size)) = some 1 := by kernel_rfl

theorem eql_same (a : Addr) (w : World) : (binOp .eql 68 (sent a) (sent a)).run Tryd.prog w = .ok (.bool true) w := by
  obtain ⟨i, hi, hc⟩ := Option.map_eq_some_iff.1 Tryd.info149
  obtain ⟨j, hj, _⟩ := Option.map_eq_some_iff.1 Tryd.info163
  exact run_eql_iface_ptr_same w a Tryd.underlying68 Tryd.underlying149 hi hc hj
theorem eql_other {w : World} {B : Nat} {E : Nat → Addr} (h : Env w B E) (g g' : Nat) (hg : g ≤ 4) (hg' : g' ≤ 4) (hne : g ≠ g') : (binOp .eql 68 (sent (E g)) (sent (E g'))).run Tryd.prog w = .ok (.bool false) w := by
  obtain ⟨i, hi, hc⟩ := Option.map_eq_some_iff.1 Tryd.info149
  obtain ⟨j, hj, hz⟩ := Option.map_eq_some_iff.1 Tryd.info163
  obtain ⟨c, t, h1⟩ := h.row g hg
  obtain ⟨c', t', h2⟩ := h.row g' hg'
  exact run_eql_iface_ptr_other w Tryd.underlying68 Tryd.underlying149 hi hc hj (by omega) (h.ne g g' hg hg' hne) h1 h2

set_option maxHeartbeats 400000 in
theorem code_0 (w : World) : Calls Tryd.prog 35 #[.nilIface] w fun e w' => e = .returned (.int .i64 0) ∧ w = w' := by
  go_enter Tryd.func35, Tryd.ntmps35
  go_wp2
  go_ret
  exact ⟨rfl, rfl⟩
set_option maxHeartbeats 400000 in
theorem code_1 (B : Nat) (E : Nat → Addr) (w : World) (h : Env w B E) : Calls Tryd.prog 35 #[sent (E 0)] w fun e w' => e = .returned (.int .i64 1) ∧ w = w' := by
  have c0 := h.at_ 0 (by omega)
  have q0 := eql_same (E 0) w
  go_enter Tryd.func35, Tryd.ntmps35
  go_wp2
  go_ret
  exact ⟨rfl, rfl⟩
set_option maxHeartbeats 400000 in
theorem code_2 (B : Nat) (E : Nat → Addr) (w : World) (h : Env w B E) : Calls Tryd.prog 35 #[sent (E 1)] w fun e w' => e = .returned (.int .i64 2) ∧ w = w' := by
  have c0 := h.at_ 0 (by omega)
  have c1 := h.at_ 1 (by omega)
  have q0 := eql_other h 1 0 (by omega) (by omega) (by omega)
  have q1 := eql_same (E 1) w
  go_enter Tryd.func35, Tryd.ntmps35
  go_wp2
  go_ret
  exact ⟨rfl, rfl⟩
set_option maxHeartbeats 400000 in
theorem code_3 (B : Nat) (E : Nat → Addr) (w : World) (h : Env w B E) : Calls Tryd.prog 35 #[sent (E 2)] w fun e w' => e = .returned (.int .i64 3) ∧ w = w' := by
  have c0 := h.at_ 0 (by omega)
  have c1 := h.at_ 1 (by omega)
  have c2 := h.at_ 2 (by omega)
  have q0 := eql_other h 2 0 (by omega) (by omega) (by omega)
  have q1 := eql_other h 2 1 (by omega) (by omega) (by omega)
  have q2 := eql_same (E 2) w
  go_enter Tryd.func35, Tryd.ntmps35
  go_wp2
  go_ret
  exact ⟨rfl, rfl⟩
set_option maxHeartbeats 400000 in
theorem code_4 (B : Nat) (E : Nat → Addr) (w : World) (h : Env w B E) : Calls Tryd.prog 35 #[sent (E 3)] w fun e w' => e = .returned (.int .i64 4) ∧ w = w' := by
  have c0 := h.at_ 0 (by omega)
  have c1 := h.at_ 1 (by omega)
  have c2 := h.at_ 2 (by omega)
  have c3 := h.at_ 3 (by omega)
  have q0 := eql_other h 3 0 (by omega) (by omega) (by omega)
  have q1 := eql_other h 3 1 (by omega) (by omega) (by omega)
  have q2 := eql_other h 3 2 (by omega) (by omega) (by omega)
  have q3 := eql_same (E 3) w
  go_enter Tryd.func35, Tryd.ntmps35
  go_wp2
  go_ret
  exact ⟨rfl, rfl⟩
set_option maxHeartbeats 400000 in
theorem code_5 (B : Nat) (E : Nat → Addr) (w : World) (h : Env w B E) : Calls Tryd.prog 35 #[sent (E 4)] w fun e w' => e = .returned (.int .i64 5) ∧ w = w' := by
  have c0 := h.at_ 0 (by omega)
  have c1 := h.at_ 1 (by omega)
  have c2 := h.at_ 2 (by omega)
  have c3 := h.at_ 3 (by omega)
  have c4 := h.at_ 4 (by omega)
  have q0 := eql_other h 4 0 (by omega) (by omega) (by omega)
  have q1 := eql_other h 4 1 (by omega) (by omega) (by omega)
  have q2 := eql_other h 4 2 (by omega) (by omega) (by omega)
  have q3 := eql_other h 4 3 (by omega) (by omega) (by omega)
  have q4 := eql_same (E 4) w
  go_enter Tryd.func35, Tryd.ntmps35
  go_wp2
  go_ret
  exact ⟨rfl, rfl⟩

/-- code tells the number of an error -/
theorem code35 (B : Nat) (E : Nat → Addr) (w : World) (h : Env w B E) (k : Nat) (hk : k ≤ 5) : Calls Tryd.prog 35 #[errV E k] w fun e w' => e = .returned (.int .i64 k) ∧ w = w' := by
  match k, hk with
  | 0, _ => exact code_0 w
  | 1, _ => exact code_1 B E w h
  | 2, _ => exact code_2 B E w h
  | 3, _ => exact code_3 B E w h
  | 4, _ => exact code_4 B E w h
  | 5, _ => exact code_5 B E w h
end Go.Proofs.YtancmlapnhccdaaDoor
