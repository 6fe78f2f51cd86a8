/- The reference's small functions: ended, reader.read, reader.unread, line. -/
import Derived.Test.YtancmlapnhccdaaDoorRmm
import Derived.Test.YtancmlapnhccdaaDoorFill
import Derived.Test.YtancmlapnhccdaaDoorSnk
namespace Go.Proofs.YtancmlapnhccdaaDoor
open Go.RowKit

/-- the cells of spec.reader -/
def srCells (A : Option Addr) (c : Nat) (r : SR) : Array Value := #[.slice A r.data.length c, .int .i64 (r.pos : Nat), .bool r.bytes, .int .i64 (r.size : Nat), .bool r.doubt]

theorem ended43 (b : Bool) (w : World) : Calls Tryd.prog 43 #[.bool b] w fun e w' => e = .returned (.int .i64 ((ended b : Nat) : Int)) ∧ w = w' := by
  cases b
  · go_enter Tryd.func43, Tryd.ntmps43
    go_wp2_with fail
    go_ret
    exact ⟨rfl, rfl⟩
  · go_enter Tryd.func43, Tryd.ntmps43
    go_wp2_with fail
    go_ret
    exact ⟨rfl, rfl⟩

def Stood (R : Nat) (A : Option Addr) (c : Nat) (r : SR) (w : World) (e : Ending) (w' : World) : Prop := e = .returned (.tuple #[]) ∧ Blk w' R 58 (srCells A c r) ∧ Keep (· = R) w w'

theorem sr_set {w : World} {R : Nat} {A : Option Addr} {c : Nat} {r r' : SR} {p s : Int} {b d : Bool} (h : Blk w R 58 (srCells A c r)) (hd : r'.data = r.data) (hp : (r'.pos : Int) = p) (hb : r'.bytes = b) (hs : (r'.size : Int) = s) (hdb : r'.doubt = d) :
    Blk ((((w.setCell ⟨R, 1, none⟩ (.int .i64 p)).setCell ⟨R, 2, none⟩ (.bool b)).setCell ⟨R, 3, none⟩ (.int .i64 s)).setCell ⟨R, 4, none⟩ (.bool d)) R 58 (srCells A c r') ∧
    Keep (· = R) w ((((w.setCell ⟨R, 1, none⟩ (.int .i64 p)).setCell ⟨R, 2, none⟩ (.bool b)).setCell ⟨R, 3, none⟩ (.int .i64 s)).setCell ⟨R, 4, none⟩ (.bool d)) := by
  refine ⟨?_, ((((Keep.refl (· = R) w).setCell (p := ⟨R, 1, none⟩) (.inl rfl) _).setCell (p := ⟨R, 2, none⟩) (.inl rfl) _).setCell (p := ⟨R, 3, none⟩) (.inl rfl) _).setCell (p := ⟨R, 4, none⟩) (.inl rfl) _⟩
  have := (((h.set_ 1 (.int .i64 p)).set_ 2 (.bool b)).set_ 3 (.int .i64 s)).set_ 4 (.bool d)
  subst hp hb hs hdb
  unfold srCells at this ⊢
  rw [hd]
  simpa using this

set_option maxHeartbeats 400000 in
theorem read41 (R : Nat) (A : Option Addr) (c : Nat) (r : SR) (n k : Nat) (w : World) (h : Blk w R 58 (srCells A c r)) (hr : r.pos + n ≤ 2000000000) :
    Calls Tryd.prog 41 #[.pointer (some ⟨R, 0, none⟩), .int .i64 (n : Nat), .int .i64 (k : Nat)] w (Stood R A c (r.read n k) w) := by
  have c1 : w.cell? ⟨R, 1, none⟩ = some (.int .i64 (r.pos : Nat)) := h.cell 1
  have c2 : w.cell? ⟨R, 2, none⟩ = some (.bool r.bytes) := h.cell 2
  have c3 : w.cell? ⟨R, 3, none⟩ = some (.int .i64 (r.size : Nat)) := h.cell 3
  have c4 : w.cell? ⟨R, 4, none⟩ = some (.bool r.doubt) := h.cell 4
  have f1 := h.frozen 1
  have f2 := h.frozen 2
  have f3 := h.frozen 3
  have f4 := h.frozen 4
  have H := Lib.hid h; clear h
  go_enter Tryd.func41, Tryd.ntmps41
  go_wp2_with fail
  refine bodyPost_ret (results_none rfl _ _ _) rfl ?_
  refine ⟨rfl, sr_set H.out rfl ?_ ?_ rfl ?_⟩
  · show ((r.pos + n : Nat) : Int) = _
    first | omega | (rw [IntWalk.wrap64_in _ (by omega)]; omega)
  · show decide (0 < n) = _
    simp
  · show decide (n = 0) = _
    by_cases h0 : n = 0
    · subst h0; rfl
    · simp [h0]

set_option maxHeartbeats 400000 in
theorem unread42 (R : Nat) (A : Option Addr) (c : Nat) (r : SR) (n : Int) (p : Nat) (w : World) (h : Blk w R 58 (srCells A c r)) (hp : (p : Int) + n = (r.pos : Int)) (hr : p ≤ 2000000000) (_hr2 : r.pos ≤ 2000000000) :
    Calls Tryd.prog 42 #[.pointer (some ⟨R, 0, none⟩), .int .i64 n] w (Stood R A c { r with pos := p, bytes := false, size := 0, doubt := false } w) := by
  have c1 : w.cell? ⟨R, 1, none⟩ = some (.int .i64 (r.pos : Nat)) := h.cell 1
  have c2 : w.cell? ⟨R, 2, none⟩ = some (.bool r.bytes) := h.cell 2
  have c3 : w.cell? ⟨R, 3, none⟩ = some (.int .i64 (r.size : Nat)) := h.cell 3
  have c4 : w.cell? ⟨R, 4, none⟩ = some (.bool r.doubt) := h.cell 4
  have f1 := h.frozen 1
  have f2 := h.frozen 2
  have f3 := h.frozen 3
  have f4 := h.frozen 4
  have H := Lib.hid (And.intro h hp); clear h hp
  go_enter Tryd.func42, Tryd.ntmps42
  go_wp2_with fail
  refine bodyPost_ret (results_none rfl _ _ _) rfl ?_
  refine ⟨rfl, sr_set H.out.1 rfl ?_ rfl rfl rfl⟩
  have := H.out.2
  show ((p : Nat) : Int) = _
  first | omega | (rw [IntWalk.wrap64_in _ (by omega)]; omega)

theorem lineL_at {l : List UInt8} {d : UInt8} {i : Nat} (hi : i < l.length) (hn : ¬ d ∈ l.take i) (he : l[i] = d) : lineL l d = (l.take (i + 1), false) := by
  have hm : d ∈ l := by rw [← he]; exact List.getElem_mem hi
  have hx : l.idxOf d = i := by
    have h1 : l = l.take i ++ d :: l.drop (i + 1) := by rw [← he, ← List.drop_eq_getElem_cons hi, List.take_append_drop]
    rw [h1, List.idxOf_append, if_neg hn]
    simp; omega
  unfold lineL
  rw [if_pos hm, hx]
theorem lineL_end {l : List UInt8} {d : UInt8} (hn : ¬ d ∈ l) : lineL l d = (l, true) := by unfold lineL; rw [if_neg hn]

set_option maxHeartbeats 400000 in
theorem line44 (A : Option Addr) (c : Nat) (l : List UInt8) (d : UInt8) (B : Nat) (w : World) (h : Reads w B 1 A l.length (bvs l)) (hc : l.length ≤ c) (hroom : Room l.length) :
    Calls Tryd.prog 44 #[.slice A l.length c, .int .u8 (d.toNat : Int)] w fun e w' => e = .returned (.tuple #[.slice A (lineL l d).1.length c, .bool (lineL l d).2]) ∧ w = w' := by
  have hro := hroom
  unfold Room at hro
  have H := Lib.hid (And.intro h hroom); clear h hroom
  go_enter Tryd.func44, Tryd.ntmps44
  go_wp2_with fail
  go_loopg [9] l.length (fun k t9 wr => ∃ i : Nat, i ≤ l.length ∧ t9 = .int .i64 (i : Nat) ∧ wr = w ∧ ¬ d ∈ l.take i ∧ k = l.length - i)
  case atStart => exact ⟨0, Nat.zero_le _, rfl, rfl, by simp, rfl⟩
  case round =>
    obtain ⟨i, hi, ht9, hwr, hn, hk⟩ := hrel
    subst ht9 hwr
    have Hk := Lib.hid (And.intro hk hn); clear hk hn
    by_cases hlt : i < l.length
    · have hd : decide (i < l.length) = true := by simpa using hlt
      obtain ⟨ad, u, rfl, _, hu, hcell⟩ := H.out.1.at_ hlt
      rw [bvs_get, List.getElem?_eq_getElem hlt] at hu
      simp only [Option.map_some, Option.some.injEq] at hu
      subst hu
      unfold bv at hcell
      by_cases he : l[i] = d
      · have hb : (((l[i]).toNat : Int) == (d.toNat : Int)) = true := by rw [he]; simp
        have He := Lib.hid (lineL_at hlt Hk.out.2 he); clear he
        generalize l[i] = x at *
        have i1 : (i : Int) + 1 ≤ (c : Int) := by omega
        go_wp2_with fail
        go_ret2
        refine ⟨?_, rfl⟩
        rw [He.out, List.length_take, Nat.min_eq_left (by omega)]
        rfl
      · have hb : (((l[i]).toNat : Int) == (d.toNat : Int)) = false := by
          simp only [beq_eq_false_iff_ne, ne_eq]
          intro e
          exact he (UInt8.toNat_inj.1 (by omega))
        have hn2 : ¬ d ∈ l.take (i + 1) := by
          rw [List.take_add_one, List.getElem?_eq_getElem hlt]
          simp only [Option.toList_some, List.mem_append, List.mem_singleton, not_or]
          exact ⟨Hk.out.2, fun e => he e.symm⟩
        have Hn := Lib.hid hn2; clear hn2 he
        generalize l[i] = x at *
        go_wp2_with fail
        go_roundg (l.length - (i + 1))
        case measure => have := Hk.out.1; omega
        case rel =>
          refine ⟨i + 1, hlt, ?_, rfl, Hn.out, rfl⟩
          refine congrArg (Value.int .i64) ?_
          first | rfl | omega | (rw [IntWalk.wrap64_in _ (by omega)]; rfl)
    · have hd : decide (i < l.length) = false := by simpa using hlt
      go_wp2_with fail
      go_ret2
      have hn := Hk.out.2
      rw [List.take_of_length_le (by omega)] at hn
      rw [lineL_end hn]
      exact ⟨rfl, rfl⟩
end Go.Proofs.YtancmlapnhccdaaDoor
