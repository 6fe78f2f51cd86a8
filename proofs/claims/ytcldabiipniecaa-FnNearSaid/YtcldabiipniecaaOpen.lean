/- From an argument of type Color, read as data, to its five fields and their ranges. -/
import Derived.Test.YtcldabiipniecaaRows
import Derived.WalkKit
import Derived.ProofKit
import Derived.OpenShut
import Derived.ShutString
import Derived.ChangeOld
import Derived.Below
import Derived.Lib.SmallJoins
import Derived.Test.YtcldabiipniecaaPaint
namespace Go.Proofs.Ytcldabiipniecaa
open Go.Joins Go.ChangeShapes Go.WideShapes Go.ChangeAt Go.RowKit Go.Deep

section
variable {H : Type} {enc : TypeId × Value → H} {P : Program} {w : World} {base : Nat} {spare : Nat → Bool} {held : Bool}
theorem open_agg5 {r : Reach} {b0 : Nat} {t : TypeId} {f0 f1 f2 f3 f4 : Field} {v : Value} {d : DataW H} {p : List MemPlace} (hs : P.underlying t = some (.struct #[f0, f1, f2, f3, f4])) (hone : oneCellFields P #[f0, f1, f2, f3, f4] = true) (hC : P.cellsOf t = 5)
    (hv : Value.okWide P w r b0 t v) (h : DataW.Trod enc P w base spare held t v d p) :
    ∃ (v0 v1 v2 v3 v4 : Value) (y0 y1 y2 y3 y4 : DataW H × List MemPlace) (n : Nat), v = .agg #[v0, v1, v2, v3, v4] ∧ d = .agg [y0.1, y1.1, y2.1, y3.1, y4.1] ∧ p = y0.2 ++ (y1.2 ++ (y2.2 ++ (y3.2 ++ y4.2))) ∧
      DataW.trod enc P w base spare held n f0.type [v0] = some y0 ∧ DataW.trod enc P w base spare held n f1.type [v1] = some y1 ∧ DataW.trod enc P w base spare held n f2.type [v2] = some y2 ∧ DataW.trod enc P w base spare held n f3.type [v3] = some y3 ∧ DataW.trod enc P w base spare held n f4.type [v4] = some y4 := by
  obtain ⟨cs, rfl, hsz⟩ := okWide_struct hs hv
  obtain ⟨l⟩ := cs
  match l, hsz.trans hC with
  | [c0, c1, c2, c3, c4], _ =>
    obtain ⟨fuel, hf⟩ := h
    obtain ⟨xs, n, _, hx, _, hlen, hg⟩ := DataW.trod_struct hs hf
    obtain ⟨o0, k0⟩ := hone_of hone 0 f0 rfl
    obtain ⟨o1, k1⟩ := hone_of hone 1 f1 rfl
    obtain ⟨o2, k2⟩ := hone_of hone 2 f2 rfl
    obtain ⟨o3, k3⟩ := hone_of hone 3 f3 rfl
    obtain ⟨o4, k4⟩ := hone_of hone 4 f4 rfl
    match xs, hlen with
    | [y0, y1, y2, y3, y4], _ =>
      simp only [Prod.mk.injEq] at hx
      exact ⟨c0, c1, c2, c3, c4, y0, y1, y2, y3, y4, n, rfl, by simpa using hx.1, by simpa using hx.2, by simpa [Value.cells, o0, k0] using hg 0 f0 rfl, by simpa [Value.cells, o1, k1] using hg 1 f1 rfl, by simpa [Value.cells, o2, k2] using hg 2 f2 rfl, by simpa [Value.cells, o3, k3] using hg 3 f3 rfl, by simpa [Value.cells, o4, k4] using hg 4 f4 rfl⟩

end

theorem own : ownKnob Try.prog.godebug = none := by kernel_rfl
theorem laidOut : laidOutB Try.prog = true := by kernel_rfl
theorem cells24 : Try.prog.cellsOf 24 = 5 := by kernel_rfl

theorem open_color {H : Type} {enc : TypeId × Value → H} {w : World} {base : Nat} {spare : Nat → Bool} {held : Bool} {r0 : Reach} {b0 : Nat} {v : Value} {d : DataW H} {p : List MemPlace}
    (hv : Value.okWide Try.prog w r0 b0 24 v) (h : DataW.Trod enc Try.prog w base spare held 24 v d p) :
    ∃ k r g b a : Int, v = colV k r g b a ∧ 0 ≤ r ∧ r ≤ 65535 ∧ 0 ≤ g ∧ g ≤ 65535 ∧ 0 ≤ b ∧ b ≤ 65535 ∧ 0 ≤ a ∧ a ≤ 65535 := by
  obtain ⟨c0, c1, c2, c3, c4, y0, y1, y2, y3, y4, n, rfl, rfl, rfl, t0, t1, t2, t3, t4⟩ := open_agg5 Try.underlying24 (by kernel_rfl) cells24 hv h
  obtain ⟨k, e0, -, -⟩ := DataW.trod_int Try.underlying3 t0
  obtain ⟨r, e1, -, wr⟩ := DataW.trod_int Try.underlying22 t1
  obtain ⟨g, e2, -, wg⟩ := DataW.trod_int Try.underlying22 t2
  obtain ⟨b, e3, -, wb⟩ := DataW.trod_int Try.underlying22 t3
  obtain ⟨a, e4, -, wa⟩ := DataW.trod_int Try.underlying22 t4
  simp at e0 e1 e2 e3 e4
  subst e0 e1 e2 e3 e4
  have br := bounds_u16 wr
  have bg := bounds_u16 wg
  have bb := bounds_u16 wb
  have ba := bounds_u16 wa
  exact ⟨k, r, g, b, a, rfl, by omega, by omega, by omega, by omega, by omega, by omega, by omega, by omega⟩
end Go.Proofs.Ytcldabiipniecaa
