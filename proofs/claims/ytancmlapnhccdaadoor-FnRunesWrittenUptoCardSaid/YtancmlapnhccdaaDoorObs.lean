/- Answers that lie below a block: read while other memory is written. -/
import Derived.Test.YtancmlapnhccdaaDoorClo
namespace Go.Proofs.YtancmlapnhccdaaDoor
open Go.RowKit

def OutsB (w : World) (B : Nat) (A : Option Addr) (os : List OutD) : Prop :=
  ∃ flat, Reads w B 3 A os.length flat ∧ ∀ (j : Nat) (o : OutD), os[j]? = some o → ∃ Ab c, (flat.drop (j * 3)).take 3 = (outCells Ab o.bytes.length c o.n ((o.err : Nat) : Int)).toList ∧ Reads w B 1 Ab o.bytes.length (bvs o.bytes)
theorem outs_b {w : World} {N n c : Nat} {X : Nat → Prop} {A : Option Addr} {os : List OutD} {flat : List Value} (hn : n = os.length) (ho : w.ownsRow N 36 3 (.slice A n c) n flat) (hx : OutsAt w X flat os) : OutsB w w.heap.size A os := by
  subst hn
  refine ⟨flat, Reads.of_own ho, fun j o hj => ?_⟩
  obtain ⟨Ab, c, h1, h2, _⟩ := hx j o hj
  exact ⟨Ab, c, h1, h2⟩
theorem OutsB.below {w w' : World} {B : Nat} {A : Option Addr} {os : List OutD} (h : OutsB w B A os) (hb : Below B w w') : OutsB w' B A os := by
  obtain ⟨flat, h1, h2⟩ := h
  refine ⟨flat, h1.below hb, fun j o hj => ?_⟩
  obtain ⟨Ab, c, h3, h4⟩ := h2 j o hj
  exact ⟨Ab, c, h3, h4.below hb⟩
theorem OutsB.at_ {w : World} {B : Nat} {A : Option Addr} {os : List OutD} (h : OutsB w B A os) {i : Nat} (hi : i < os.length) :
    ∃ ad A' c', A = some ad ∧ ad.block < B ∧ w.cell? (ad.add (i * 3)) = some (.slice A' os[i].bytes.length c') ∧ w.cell? ⟨(ad.add (i * 3)).block, (ad.add (i * 3)).off + 1, none⟩ = some (.int .i64 os[i].n) ∧ w.cell? ⟨(ad.add (i * 3)).block, (ad.add (i * 3)).off + 2, none⟩ = some (.int .i64 ((os[i].err : Nat) : Int)) ∧ Reads w B 1 A' os[i].bytes.length (bvs os[i].bytes) := by
  obtain ⟨flat, hr, ho⟩ := h
  obtain ⟨ad, e, hB, hc⟩ := hr.2 (by omega)
  obtain ⟨A', c', he, hrb⟩ := ho i os[i] (List.getElem?_eq_getElem hi)
  have at_ : ∀ j u, (outCells A' os[i].bytes.length c' os[i].n ((os[i].err : Nat) : Int)).toList[j]? = some u → w.cell? (ad.add (i * 3 + j)) = some u := by
    intro j u hu
    rw [← he, List.getElem?_take, List.getElem?_drop] at hu
    split at hu
    · exact hc (i * 3 + j) u hu
    · cases hu
  refine ⟨ad, A', c', e, hB, at_ 0 _ rfl, ?_, ?_, hrb⟩
  · have := at_ 1 _ rfl
    rw [← add_of_add] at this
    exact this
  · have := at_ 2 _ rfl
    rw [← add_of_add] at this
    exact this
theorem OutsB.drewN {w : World} {B : Nat} {A : Option Addr} {os : List OutD} (h : OutsB w B A os) (n : Nat) : OutsB (w.drewN n) B A os := by
  obtain ⟨flat, h1, h2⟩ := h
  refine ⟨flat, h1.drewN n, fun j o hj => ?_⟩
  obtain ⟨Ab, c, h3, h4⟩ := h2 j o hj
  exact ⟨Ab, c, h3, h4.drewN n⟩
end Go.Proofs.YtancmlapnhccdaaDoor
