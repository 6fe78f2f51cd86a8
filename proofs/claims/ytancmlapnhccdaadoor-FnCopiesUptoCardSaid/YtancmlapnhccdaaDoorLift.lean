/- From a row's premises to what the walks ask: the five errors, pieces, the bound; from a walk's answer to the row's. -/
import Derived.Test.YtancmlapnhccdaaDoorMade
import Derived.Test.YtancmlapnhccdaaDoorCards
import Derived.Test.YtancmlapnhccdaaDoorTie
import Derived.WalkKit
import Derived.ProofKit
import Derived.OpenShut
import Derived.Below
import Derived.ChangeSame
import Derived.Carry
import Derived.WideKeyArgs
import Derived.Deep.Matrix
import Derived.Deep.DeepHandedRow
import Derived.Stop.LaidErr
import Derived.LaidSub
import Derived.Lay
namespace Go.Proofs.YtancmlapnhccdaaDoor
open Go.ChangeShapes Go.WideShapes Go.ChangeAt Go.RowKit

theorem ownT : ownKnob Tryd.prog.godebug = none := by kernel_rfl
theorem laidOutT : laidOutB Tryd.prog = true := by kernel_rfl

/-! ### the errors -/
theorem star : "*" ++ "errors.errorString" = "*errors.errorString" := by decide
theorem row149 (u : TypeId) (h : Tryd.prog.typeName? 3 u = some "*errors.errorString") : u = 149 :=
  typeName_ptr_named (nm := "errors.errorString") (by rw [star]; kernel_rfl) (by kernel_rfl) (by decide) u (by rw [star]; exact h)
theorem cells163 : Tryd.prog.cellsOf 163 = 1 := by kernel_rfl
theorem cells9 : Tryd.prog.cellsOf 9 = 1 := by kernel_rfl

/-- the first of a list of errors -/
theorem laid_first {P : Program} {n nm : String} {text : List UInt8} {r : List (String × DataW Unit)} {W : World} {g : Nat} {ti tp te ts : TypeId} {ms : Array (String × TypeId)} {f : Field} {ps : List MemPlace}
    (h : DataW.LaidVars P W ((n, .iface nm (.ptr (.agg [.lit (.string text)]))) :: r) ps)
    (hrows : ∀ b off, MemPlace.cell b off ∈ ps → (∃ c t, W.heap[b]? = some (.cells c t (0, 0))) ∧ ∀ u v, W.cell? ⟨b, off, none⟩ = some (.iface u v) → Value.okWide P W .any 0 u v)
    (hi : P.underlying ti = some (.interface ms)) (hrow : ∀ u, P.typeName? 3 u = some nm → u = tp)
    (hp : P.underlying tp = some (.pointer te)) (he : P.underlying te = some (.struct #[f])) (hft : f.type = ts) (hfo : f.offset = 0) (hs : P.underlying ts = some .string) (hc : P.cellsOf te = 1) (hcs : P.cellsOf ts = 1)
    (hg : P.globalNamed n = some g) (ht : (P.globals[g]?).map (·.type) = some ti) :
    ∃ (a : Addr) (pre q : List MemPlace), W.cell? ⟨g, 0, none⟩ = some (.iface tp (.pointer (some a))) ∧ (∃ c t, W.heap[a.block]? = some (.cells c t (0, 0))) ∧ DataW.LaidVars P W r q ∧ ps = pre ++ q ∧ MemPlace.cell a.block a.off ∈ pre := by
  obtain ⟨g0, t0, cs0, f0, p0, q0, hg0, ht0, hv0, hd0, hq, e0⟩ := h
  obtain rfl := Option.some.inj (hg.symm.trans hg0)
  obtain rfl := Option.some.inj (ht.symm.trans ht0)
  subst e0
  obtain ⟨l0⟩ := cs0
  have ok0 : ∀ u v, l0 = [.iface u v] → Value.okWide P W .any 0 u v := fun u v e => by
    subst e
    exact (hrows g 0 (by simp [MemPlace.row])).2 u v (by simpa using World.var?_cell hg0 hv0 0)
  obtain ⟨a0, s0, rfl, hc0, hs0, hz0, rfl⟩ := errorString_of_trod hi hrow hp he hft hfo hs hc hcs hd0 ok0
  refine ⟨a0, _, q0, by simpa using World.var?_cell hg0 hv0 0, (hrows a0.block a0.off (by simp [MemPlace.row])).1, hq, rfl, by simp [MemPlace.row]⟩
theorem laid_one {n : String} {text : List UInt8} {r : List (String × DataW Unit)} {W : World} {g : Nat} {ps : List MemPlace}
    (h : DataW.LaidVars Tryd.prog W ((n, .iface "*errors.errorString" (.ptr (.agg [.lit (.string text)]))) :: r) ps)
    (hrows : ∀ b off, MemPlace.cell b off ∈ ps → (∃ c t, W.heap[b]? = some (.cells c t (0, 0))) ∧ ∀ u v, W.cell? ⟨b, off, none⟩ = some (.iface u v) → Value.okWide Tryd.prog W .any 0 u v)
    (hg : Tryd.prog.globalNamed n = some g) (ht : (Tryd.prog.globals[g]?).map (·.type) = some 68) :
    ∃ (a : Addr) (pre q : List MemPlace), W.cell? ⟨g, 0, none⟩ = some (sent a) ∧ (∃ c t, W.heap[a.block]? = some (.cells c t (0, 0))) ∧ DataW.LaidVars Tryd.prog W r q ∧ ps = pre ++ q ∧ MemPlace.cell a.block a.off ∈ pre :=
  laid_first h hrows Tryd.underlying68 row149 Tryd.underlying149 Tryd.underlying163 rfl rfl Tryd.underlying9 cells163 cells9 hg ht

def five : List (String × DataW Unit) := [("io.EOF", Rows.laid_io_EOF), ("bufio.ErrInvalidUnreadByte", Rows.laid_bufio_ErrInvalidUnreadByte), ("bufio.ErrInvalidUnreadRune", Rows.laid_bufio_ErrInvalidUnreadRune), ("bufio.ErrBufferFull", Rows.laid_bufio_ErrBufferFull), ("bufio.ErrNegativeCount", Rows.laid_bufio_ErrNegativeCount)]
def isFive (x : String × DataW Unit) : Bool := x.1 == "io.EOF" || x.1 == "bufio.ErrInvalidUnreadByte" || x.1 == "bufio.ErrInvalidUnreadRune" || x.1 == "bufio.ErrBufferFull" || x.1 == "bufio.ErrNegativeCount"

theorem g0 : Tryd.prog.globalNamed "io.EOF" = some 0 := by kernel_rfl
theorem g1 : Tryd.prog.globalNamed "bufio.ErrInvalidUnreadByte" = some 1 := by kernel_rfl
theorem g2 : Tryd.prog.globalNamed "bufio.ErrInvalidUnreadRune" = some 2 := by kernel_rfl
theorem g3 : Tryd.prog.globalNamed "bufio.ErrNegativeCount" = some 3 := by kernel_rfl
theorem g4 : Tryd.prog.globalNamed "bufio.ErrBufferFull" = some 4 := by kernel_rfl
theorem gt0 : (Tryd.prog.globals[0]?).map (·.type) = some 68 := by kernel_rfl
theorem gt1 : (Tryd.prog.globals[1]?).map (·.type) = some 68 := by kernel_rfl
theorem gt2 : (Tryd.prog.globals[2]?).map (·.type) = some 68 := by kernel_rfl
theorem gt3 : (Tryd.prog.globals[3]?).map (·.type) = some 68 := by kernel_rfl
theorem gt4 : (Tryd.prog.globals[4]?).map (·.type) = some 68 := by kernel_rfl

theorem beg11 : (((begin Tryd.prog (fun _ _ => 0) default).world.heap[11]?).bind Obj.row?).isSome = true ∧ 11 < Tryd.prog.globals.size := ⟨by kernel_rfl, of_decide_eq_true (by kernel_rfl)⟩
theorem shaped12 {W : World} (h : W.ShapedOpen Tryd.prog) : 12 ≤ W.heap.size := by
  obtain ⟨h1, h2⟩ := beg11
  obtain ⟨⟨z, t⟩, hz⟩ := Option.isSome_iff_exists.1 h1
  obtain ⟨cs, hc, _⟩ := h.1 11 z t h2 hz
  have := (Array.getElem?_eq_some_iff.1 hc).1
  omega

theorem env_five {W : World} (h : laidMet Tryd.prog five W) (hsh : W.ShapedOpen Tryd.prog) : ∃ E, Env W W.heap.size E := by
  obtain ⟨ps, hl, hnd, hrows⟩ := h
  obtain ⟨a0, p0, q0, c0, r0, hl0, rfl, m0⟩ := laid_one hl hrows g0 gt0
  obtain ⟨a1, p1, q1, c1, r1, hl1, rfl, m1⟩ := laid_one hl0 (fun b off hb => hrows b off (List.mem_append_right _ hb)) g1 gt1
  obtain ⟨a2, p2, q2, c2, r2, hl2, rfl, m2⟩ := laid_one hl1 (fun b off hb => hrows b off (List.mem_append_right _ (List.mem_append_right _ hb))) g2 gt2
  obtain ⟨a4, p4, q4, c4, r4, hl4, rfl, m4⟩ := laid_one hl2 (fun b off hb => hrows b off (List.mem_append_right _ (List.mem_append_right _ (List.mem_append_right _ hb)))) g4 gt4
  obtain ⟨a3, p3, q3, c3, r3, hl3, rfl, m3⟩ := laid_one hl4 (fun b off hb => hrows b off (List.mem_append_right _ (List.mem_append_right _ (List.mem_append_right _ (List.mem_append_right _ hb))))) g3 gt3
  have far : ∀ {p q : List MemPlace} {a b : Addr}, (p ++ q).Nodup → MemPlace.cell a.block a.off ∈ p → MemPlace.cell b.block b.off ∈ q → a ≠ b := by
    rintro p q a b hn ha hb rfl
    exact (List.nodup_append.1 hn).2.2 _ ha _ hb rfl
  have n0 := hnd
  have n1 := (List.nodup_append.1 n0).2.1
  have n2 := (List.nodup_append.1 n1).2.1
  have n4 := (List.nodup_append.1 n2).2.1
  have d01 := far n0 m0 (List.mem_append_left _ m1)
  have d02 := far n0 m0 (List.mem_append_right _ (List.mem_append_left _ m2))
  have d04 := far n0 m0 (List.mem_append_right _ (List.mem_append_right _ (List.mem_append_left _ m4)))
  have d03 := far n0 m0 (List.mem_append_right _ (List.mem_append_right _ (List.mem_append_right _ (List.mem_append_left _ m3))))
  have d12 := far n1 m1 (List.mem_append_left _ m2)
  have d14 := far n1 m1 (List.mem_append_right _ (List.mem_append_left _ m4))
  have d13 := far n1 m1 (List.mem_append_right _ (List.mem_append_right _ (List.mem_append_left _ m3)))
  have d24 := far n2 m2 (List.mem_append_left _ m4)
  have d23 := far n2 m2 (List.mem_append_right _ (List.mem_append_left _ m3))
  have d43 := far n4 m4 (List.mem_append_left _ m3)
  refine ⟨fun k => match k with | 0 => a0 | 1 => a1 | 2 => a2 | 3 => a3 | _ => a4, ⟨?_, ?_, ?_, ?_, shaped12 hsh⟩⟩
  · intro g hg
    match g, hg with
    | 0, _ => exact c0
    | 1, _ => exact c1
    | 2, _ => exact c2
    | 3, _ => exact c3
    | 4, _ => exact c4
  · intro g hg
    match g, hg with
    | 0, _ => exact r0
    | 1, _ => exact r1
    | 2, _ => exact r2
    | 3, _ => exact r3
    | 4, _ => exact r4
  · intro g g' hg hg' hne
    match g, hg, g', hg' with
    | 0, _, 0, _ => exact absurd rfl hne
    | 0, _, 1, _ => exact d01
    | 0, _, 2, _ => exact d02
    | 0, _, 3, _ => exact d03
    | 0, _, 4, _ => exact d04
    | 1, _, 0, _ => exact d01.symm
    | 1, _, 1, _ => exact absurd rfl hne
    | 1, _, 2, _ => exact d12
    | 1, _, 3, _ => exact d13
    | 1, _, 4, _ => exact d14
    | 2, _, 0, _ => exact d02.symm
    | 2, _, 1, _ => exact d12.symm
    | 2, _, 2, _ => exact absurd rfl hne
    | 2, _, 3, _ => exact d23
    | 2, _, 4, _ => exact d24
    | 3, _, 0, _ => exact d03.symm
    | 3, _, 1, _ => exact d13.symm
    | 3, _, 2, _ => exact d23.symm
    | 3, _, 3, _ => exact absurd rfl hne
    | 3, _, 4, _ => exact d43.symm
    | 4, _, 0, _ => exact d04.symm
    | 4, _, 1, _ => exact d14.symm
    | 4, _, 2, _ => exact d24.symm
    | 4, _, 3, _ => exact d43
    | 4, _, 4, _ => exact absurd rfl hne
  · have lt : ∀ {a : Addr}, (∃ c t, W.heap[a.block]? = some (.cells c t (0, 0))) → a.block < W.heap.size := fun ⟨_, _, h⟩ => (Array.getElem?_eq_some_iff.1 h).1
    intro g hg
    match g, hg with
    | 0, _ => exact lt r0
    | 1, _ => exact lt r1
    | 2, _ => exact lt r2
    | 3, _ => exact lt r3
    | 4, _ => exact lt r4

theorem env_laid {W : World} {laid : List (String × DataW Unit)} (hf : laid.filter isFive = five) (h : laidMetH Tryd.prog laid W) (hsh : W.ShapedOpen Tryd.prog) : ∃ E, Env W W.heap.size E := by
  have h5 := h.filter isFive
  rw [hf] at h5
  exact env_five h5 hsh

/-! ### the row's last step -/
section
variable {H : Type} {enc : TypeId × Value → H} {P : Program}
theorem trodAll_stays (hl : laidOutB P = true) {W W' : World} {sp : Nat → Bool} : ∀ {ts : List TypeId} {vs : List Value} {ds : List (DataW H)} {ps : List MemPlace}, (∀ t ∈ ts, P.readableRec t = true ∧ t < P.types.size) →
    DataW.TrodAll enc P W 0 (fun _ => true) true ts vs ds ps → (∀ p ∈ ps, W.sameAt W' p) → (∀ p ∈ ps, sp p.block = true) → DataW.TrodAll enc P W' 0 sp true ts vs ds ps
  | [], vs, ds, ps, _, h, _, _ => by
    obtain ⟨rfl, rfl, rfl⟩ := trodAll_nil h
    exact trodAll_mk0
  | t :: ts, vs, ds, ps, ht, h, hs, hp => by
    obtain ⟨v, vs', d, ds', p, q, rfl, rfl, rfl, h0, hr⟩ := trodAll_cons h
    exact trodAll_cons_mk (WideElems.Trod_stays hl (ht t (List.mem_cons_self ..)).1 (ht t (List.mem_cons_self ..)).2 h0 (fun x hx => hs x (List.mem_append_left _ hx)) (fun x hx => hp x (List.mem_append_left _ hx)))
      (trodAll_stays hl (fun t' h' => ht t' (List.mem_cons_of_mem _ h')) hr (fun x hx => hs x (List.mem_append_right _ hx)) (fun x hx => hp x (List.mem_append_right _ hx)))
end

/-- a law has answered true, and what lay there is as it was -/
theorem post_true {H : Type} {enc : TypeId × Value → H} {f : Func} {s : ChangeSpec} {W W' : World} {args : Array Value} {ds gs : List (DataW H)} {before : List MemPlace}
    (hW : DataW.Whole enc Tryd.prog f.params.toList s.vars false W args.toList ds gs before) (hv : s.vars = []) (hfn : s.fn H ds = { results := [.lit (.bool true)], args := ds }) (hrt : f.resultTypes = #[4])
    (hts : ∀ t ∈ f.params.toList, Tryd.prog.readableRec t = true ∧ t < Tryd.prog.types.size) (hb : Below W.heap.size W W') : s.post enc Tryd.prog f false true false false W args (.bool true) W' := by
  have hW2 := hW
  obtain ⟨p, q, hA, hV, rfl, hz, hn⟩ := hW
  rw [hv] at hV
  obtain ⟨rfl, rfl⟩ := trodVars_none hV
  have hlt : ∀ x ∈ p ++ [], x.block < W.heap.size := fun x hx => hW2.lt x hx
  have hold : ∀ x ∈ p, (fun b => decide (b < W.heap.size)) x.block = true := fun x hx => by simpa using hlt x (List.mem_append_left _ hx)
  have hA' := trodAll_stays (sp := fun b => decide (b < W.heap.size)) laidOutT hts hA (W' := W') (fun x hx => hb.same (hlt x (List.mem_append_left _ hx))) hold
  refine ⟨ds, [], p ++ [], [], p, [], hW2, ?_, ?_, ?_, World.keptBut_mono (fun x hx => ⟨hx, .inr (.inl ?_)⟩) (hb.frame (· ∈ p ++ [])), fun h => by cases h⟩
  · rw [hrt, List.append_nil, hfn]
    exact trodAll_cons_mk (shut_bool Tryd.underlying4 _) trodAll_mk0
  · rw [List.append_nil, hfn]; exact hA'
  · rw [hv, List.append_nil, hfn]; rfl
  · simpa using hx
end Go.Proofs.YtancmlapnhccdaaDoor
