/- spec.Same, where the answers are the same. -/
import Derived.Test.YtancmlapnhccdaaDoorPlr
import Derived.BigQuiet
namespace Go.Proofs.YtancmlapnhccdaaDoor
open Go.RowKit

theorem own_cap {w : World} {N n size c : Nat} {e : TypeId} {a : Option Addr} {xs : List Value} (h : w.ownsRow N e size (.slice a n c) n xs) : n ≤ c := by
  rcases h.2 with ⟨_, hn⟩ | ⟨g, cap, cur, e, _, _, hc, _⟩
  · omega
  · injection e with _ _ e3
    omega
/-- a slice of answers -/
def OutsSl (w : World) (A : Option Addr) (os : List OutD) : Prop := ∃ flat, Reads w w.heap.size 3 A os.length flat ∧ OutsAt w (fun _ => False) flat os
theorem OutsSl.at_ {w : World} {A : Option Addr} {os : List OutD} (h : OutsSl w A os) {i : Nat} (hi : i < os.length) :
    ∃ ad A' c', A = some ad ∧ w.cell? (ad.add (i * 3)) = some (.slice A' os[i].bytes.length c') ∧ w.cell? ⟨(ad.add (i * 3)).block, (ad.add (i * 3)).off + 1, none⟩ = some (.int .i64 os[i].n) ∧ w.cell? ⟨(ad.add (i * 3)).block, (ad.add (i * 3)).off + 2, none⟩ = some (.int .i64 ((os[i].err : Nat) : Int)) ∧ Reads w w.heap.size 1 A' os[i].bytes.length (bvs os[i].bytes) := by
  obtain ⟨flat, hr, ho⟩ := h
  obtain ⟨ad, e, _, hc⟩ := hr.2 (by omega)
  obtain ⟨A', c', he, hrb, _⟩ := ho i os[i] (List.getElem?_eq_getElem hi)
  have at_ : ∀ j u, (outCells A' os[i].bytes.length c' os[i].n ((os[i].err : Nat) : Int)).toList[j]? = some u → w.cell? (ad.add (i * 3 + j)) = some u := by
    intro j u hu
    rw [← he, List.getElem?_take, List.getElem?_drop] at hu
    split at hu
    · exact hc (i * 3 + j) u hu
    · cases hu
  refine ⟨ad, A', c', e, at_ 0 _ rfl, ?_, ?_, hrb⟩
  · have := at_ 1 _ rfl
    rw [← add_of_add] at this
    exact this
  · have := at_ 2 _ rfl
    rw [← add_of_add] at this
    exact this

/-- one answer of a row of one's own, as a slice -/
theorem outs_cut {w : World} {N g c : Nat} {X : Nat → Prop} {os : List OutD} {flat : List Value} (ho : w.ownsRow N 36 3 (.slice (some ⟨g, 0, none⟩) os.length c) os.length flat) (hx : OutsAt w X flat os) (j : Nat) (o : OutD) (hj : os[j]? = some o) : OutsSl w (some ⟨g, j * 3, none⟩) [o] := by
  obtain ⟨A', c', he, hr, hA⟩ := hx j o hj
  have hc := ho.cells (g := g) rfl
  have hl := (ho.lt g rfl).2
  refine ⟨(outCells A' o.bytes.length c' o.n ((o.err : Nat) : Int)).toList, ⟨rfl, fun _ => ⟨_, rfl, hl, fun i u hu => ?_⟩⟩, fun i o' ho' => ?_⟩
  · rw [← he, List.getElem?_take, List.getElem?_drop] at hu
    split at hu
    · have := hc (j * 3 + i) u hu
      rw [add_mk, Nat.zero_add] at this
      rw [add_mk]
      exact this
    · cases hu
  · rcases i with _ | i
    · simp only [List.getElem?_cons_zero, Option.some.injEq] at ho'
      subst ho'
      exact ⟨A', c', rfl, hr, fun h0 => by obtain ⟨ad, e, _⟩ := hA h0; exact ⟨ad, e, fun h => h⟩⟩
    · simp at ho'
theorem OutsSl.below {w w' : World} {A : Option Addr} {os : List OutD} (h : OutsSl w A os) (hb : Below w.heap.size w w') : OutsSl w' A os := by
  obtain ⟨flat, hr, ho⟩ := h
  exact ⟨flat, (hr.below hb).more hb.size, ho.keep (Keep.ofBelow hb (fun _ => False)) (fun _ h => h.elim) (fun _ h => h.elim)⟩
/-- a slice of one empty answer -/
theorem outs_zero (w : World) : OutsSl (w.alloc (.cells #[.slice none 0 0, .int .i64 0, .int .i64 0] 36)) (some ⟨w.heap.size, 0, none⟩) [noOut] := by
  refine ⟨(outCells none 0 0 0 0).toList, out_reads w none 0 0 0 0, fun i o ho => ?_⟩
  rcases i with _ | i
  · simp only [List.getElem?_cons_zero, Option.some.injEq] at ho
    subst ho
    exact ⟨none, 0, rfl, Reads.none_, fun h0 => absurd h0 (by simp [noOut])⟩
  · simp at ho
theorem OutsSl.drewN {w : World} {A : Option Addr} {os : List OutD} (h : OutsSl w A os) (n : Nat) : OutsSl (w.drewN n) A os := by
  obtain ⟨flat, hr, ho⟩ := h
  exact ⟨flat, hr.drewN n, ho.keep ((Keep.refl (fun _ => False) w).drewN n) (fun _ h => h.elim) (fun _ h => h.elim)⟩

set_option maxRecDepth 100000 in
set_option maxHeartbeats 1000000 in
theorem same24 (A A' : Option Addr) (c c' : Nat) (os : List OutD) (w : World) (h : OutsSl w A os) (h' : OutsSl w A' os) (hroom : Room os.length) :
    Calls Tryd.prog 24 #[.slice A os.length c, .slice A' os.length c'] w (fun e w' => e = .returned (.bool true) ∧ ∃ k, w' = w.drewN k) := by
  have H := Lib.hid (And.intro h (And.intro h' hroom)); clear h h' hroom
  go_enter Tryd.func24, Tryd.ntmps24
  go_wp2_with fail
  go_loopg [13] os.length (fun k t13 wr => ∃ i j, i ≤ os.length ∧ t13 = .int .i64 ((i : Nat) : Int) ∧ wr = w.drewN j ∧ k = os.length - i)
  case atStart => exact ⟨0, 0, Nat.zero_le _, rfl, rfl, rfl⟩
  case round =>
    obtain ⟨i, j, hi, ht13, hwr, hk⟩ := hrel
    subst ht13 hwr
    have Hk := Lib.hid hk; clear hk
    by_cases hlt : i < os.length
    · have hd : decide (i < os.length) = true := by simpa using hlt
      obtain ⟨ad, B, b, rfl, x0, x1, x2, xr⟩ := H.out.1.at_ hlt
      obtain ⟨ad', B', b', rfl, y0, y1, y2, yr⟩ := H.out.2.1.at_ hlt
      have r1 := fun n => conv_str (c := b) (xr.drewN n)
      have r2 := fun n => conv_str (c := b') (yr.drewN n)
      clear xr yr
      generalize os[i] = o at *
      go_wp2_with fail
      go_quiet (fail)
      go_wp2_with fail
      go_roundg (os.length - (i + 1))
      case measure => have := Hk.out; omega
      case rel =>
        have hR := H.out.2.2
        unfold Room at hR
        refine ⟨i + 1, j + nq, hlt, ?_, rfl, rfl⟩
        refine congrArg (Value.int .i64) ?_
        rw [IntWalk.wrap64_in _ (by omega)]
        rfl
    · have hd : decide (i < os.length) = false := by simpa using hlt
      go_wp2_with fail
      go_ret
      exact ⟨rfl, j, rfl⟩
end Go.Proofs.YtancmlapnhccdaaDoor
