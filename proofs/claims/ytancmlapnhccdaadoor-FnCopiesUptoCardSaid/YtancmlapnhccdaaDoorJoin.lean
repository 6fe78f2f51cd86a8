/- spec.Joined: the pieces one behind the other, in a row of the call's own; bytes as a string. -/
import Derived.Test.YtancmlapnhccdaaDoorMade
import Derived.Laws.BytesArg
import Derived.Laws.IdiomStrings
namespace Go.Proofs.YtancmlapnhccdaaDoor
open Go.RowKit

/-- bytes as a string -/
def strOf (xs : List UInt8) : ByteArray := ⟨xs.toArray⟩
theorem strOf_inj {xs ys : List UInt8} (h : strOf xs = strOf ys) : xs = ys := by
  unfold strOf at h
  injection h with h
  simpa using congrArg Array.toList h
theorem conv_str {w : World} {B : Nat} {A : Option Addr} {xs : List UInt8} {c : Nat} (h : Reads w B 1 A xs.length (bvs xs)) : (convert 25 9 (.slice A xs.length c)).run Tryd.prog w = .ok (.string (strOf xs)) w := by
  rcases A with _ | ad
  · have h0 : xs = [] := by
      rcases xs with _ | ⟨x, xs⟩
      · rfl
      · obtain ⟨ad, e, _⟩ := h.2 (by simp)
        cases e
    subst h0
    exact run_convert_bytes_nil w 25 5 Tryd.underlying25 Tryd.underlying5 _ _ 9 Tryd.underlying9
  · refine run_convert_bytes_back w 25 9 5 ad c xs Tryd.underlying25 Tryd.underlying5 Tryd.underlying9 (fun j hj => ?_)
    obtain ⟨ad', e, _, hc⟩ := h.2 (by omega)
    cases e
    exact hc j _ (by rw [bvs_get, List.getElem?_eq_getElem hj]; rfl)

def Joined22 (ps : List (List UInt8)) (w : World) (e : Ending) (w' : World) : Prop :=
  ∃ v, e = .returned v ∧ w'.ownsRow w.heap.size 5 1 v ps.flatten.length (bvs ps.flatten) ∧ Below w.heap.size w w'

def JRel (ps : List (List UInt8)) (w : World) (k : Nat) (t3 t9 : Value) (wr : World) : Prop :=
  ∃ (i : Nat) (a : Option Addr) (c : Nat), i ≤ ps.length ∧ t9 = .int .i64 (i : Nat) ∧ t3 = .slice a (ps.take i).flatten.length c ∧ wr.ownsRow w.heap.size 5 1 (.slice a (ps.take i).flatten.length c) (ps.take i).flatten.length (bvs (ps.take i).flatten) ∧ Below w.heap.size w wr ∧ k = ps.length - i

theorem take_flat (ps : List (List UInt8)) (i : Nat) : (ps.take i).flatten.length ≤ ps.flatten.length := by
  have h := congrArg (fun l => (List.flatten l).length) (List.take_append_drop i ps)
  simp only [List.flatten_append, List.length_append] at h
  omega
theorem take_step (ps : List (List UInt8)) (i : Nat) (h : i < ps.length) : (ps.take (i + 1)).flatten = (ps.take i).flatten ++ ps[i] := by
  rw [List.take_add_one, List.getElem?_eq_getElem h, List.flatten_append]
  simp

set_option maxHeartbeats 1000000 in
theorem joined22 (A : Option Addr) (c : Nat) (ps : List (List UInt8)) (w : World) (hp : PiecesAt w w.heap.size A ps) (hroom : Room ps.flatten.length) (hl : Room ps.length) :
    Calls Tryd.prog 22 #[.slice A ps.length c] w (Joined22 ps w) := by
  obtain ⟨i0, hi0, hz0, hz1, hz2⟩ := info_parts Tryd.info5
  have HI := Lib.hid (And.intro hi0 (And.intro hz0 (And.intro hz1 hz2))); clear hi0 hz0 hz1 hz2
  have hown : (w.alloc (.cells #[] 5)).ownsRow w.heap.size 5 1 (.slice (some ⟨w.heap.size, 0, none⟩) 0 0) 0 [] := World.ownsRow_made w #[] 0 (Nat.le_refl _) (by simp [maxLen]) (by simp)
  have HP := Lib.hid (And.intro hp (And.intro hroom (And.intro hl hown))); clear hp hroom hl hown
  go_enter Tryd.func22, Tryd.ntmps22
  go_wp2_with fail
  go_loopg [3, 9] ps.length (fun k t3 t9 wr => JRel ps w k t3 t9 wr)
  case atStart => exact ⟨0, _, _, Nat.zero_le _, rfl, rfl, HP.out.2.2.2, (Below.refl _ _).alloc (Nat.le_refl _) _, rfl⟩
  case round =>
    obtain ⟨i, a, c', hi, ht9, ht3, hown, hb, hk⟩ := hrel
    subst ht9 ht3
    have Hk := Lib.hid hk; clear hk
    by_cases hlt : i < ps.length
    · have hd : decide (i < ps.length) = true := by simpa using hlt
      obtain ⟨vs, hr, hps⟩ := HP.out.1
      obtain ⟨ad, u, rfl, hadb, hvs, hcell⟩ := hr.at_ hlt
      obtain ⟨v, hv, A1, l1, c1, rfl, hlc, hcm, rfl, hrp⟩ := hps i ps[i] (List.getElem?_eq_getElem hlt)
      rw [hvs] at hv
      injection hv with hv
      subst hv
      have hcell' : wr.cell? (ad.add i) = some (.slice A1 (ps[i]).length c1) := (hb.cell (p := ad.add i) (by rw [block_of_add]; exact hadb)).trans hcell
      have hfl := take_flat ps (i + 1)
      rw [take_step ps i hlt, List.length_append] at hfl
      have hrm : Room ((ps.take i).flatten.length + (ps[i]).length) := HP.out.2.1.mono hfl
      have HH := Lib.hid (And.intro hown (And.intro (hrp.below hb) (And.intro (bvs_one ps[i]) (And.intro hrm (And.intro hb.size (And.intro hb (take_step ps i hlt)))))))
      clear hown hrp hrm hb hr hps hvs hcell hlc hcm hfl
      generalize ps[i] = p at *
      generalize hq : (ps.take i).flatten = q at *
      go_wp2_with (at_builtin; refine wpList_append_any _ rfl (.tmp 13) (.tmp 14) _ rfl w.heap.size 5 i0 _ 1 1 Tryd.underlying25 HI.out.1 HI.out.2.1 HI.out.2.2.1 HI.out.2.2.2 rfl (by omega) (.slice a q.length c') q.length (bvs q) rfl HH.out.1 w.heap.size A1 p.length c1 (bvs p) rfl HH.out.2.1 HH.out.2.2.1 HH.out.2.2.2.1.len (HH.out.2.2.2.1.bytes 1 (by omega)) HH.out.2.2.2.2.1 ?_; intro v1 w1 hown1 hg1 hat1; obtain ⟨a1, k1, hv1⟩ := own_slice hown1; subst hv1; have H1 := Lib.hid (And.intro hown1 (And.intro hg1 hat1)); clear hown1 hg1 hat1)
      go_roundg (ps.length - (i + 1))
      case measure => have := Hk.out; omega
      case rel =>
        obtain ⟨hown1, hg1, hat1⟩ := H1.out
        obtain ⟨ho, _, _, _, hsz, hb, hst⟩ := HH.out
        have hR := HP.out.2.2.1
        unfold Room at hR
        refine ⟨i + 1, a1, k1, hlt, ?_, ?_, ?_, ?_, rfl⟩
        · refine congrArg (Value.int .i64) ?_
          rw [IntWalk.wrap64_in _ (by omega)]
          rfl
        · rw [hst, List.length_append]
        · rw [hst, List.length_append, bvs_append]; exact hown1
        · exact hb.grown hg1 hsz (fun k hk => (ho.lt k hk).1)
    · have hd : decide (i < ps.length) = false := by simpa using hlt
      have hall : ps.take i = ps := List.take_of_length_le (by omega)
      rw [hall] at hown ⊢
      have HH := Lib.hid (And.intro hown hb); clear hown hb
      generalize hn : ps.flatten.length = n at HH ⊢
      go_wp2_with fail
      go_ret
      refine ⟨_, rfl, ?_, HH.out.2⟩
      rw [hn]; exact HH.out.1
end Go.Proofs.YtancmlapnhccdaaDoor
