/- laws.FnRunesWritten: the walk. -/
import Derived.Test.YtancmlapnhccdaaDoorLap
namespace Go.Proofs.YtancmlapnhccdaaDoor
open Go.RowKit

/-- numbers of 32 bits as cells -/
def ivs (l : List Int) : List Value := l.map (Value.int .i32)
theorem own_max' {w : World} {N n size c : Nat} {e : TypeId} {a : Option Addr} {xs : List Value} (h : w.ownsRow N e size (.slice a n c) n xs) : c ≤ maxLen := by
  rcases h.2 with ⟨hv, _⟩ | ⟨g, cap, cur, hv, _, _, _, hm, _⟩
  · injection hv with _ _ h3
    rw [h3]
    simp [maxLen]
  · injection hv with _ _ h3
    rw [h3]
    exact hm
theorem pieces_blk {w : World} {g c : Nat} {A : Option Addr} {l : List UInt8} (hb : Blk w g 25 #[.slice A l.length c]) (hr : Reads w w.heap.size 1 A l.length (bvs l)) (hc : l.length ≤ c) (hm : c ≤ maxLen) : PiecesAt w w.heap.size (some ⟨g, 0, none⟩) [l] := by
  refine ⟨[.slice A l.length c], ⟨rfl, fun _ => ⟨_, rfl, hb.lt, fun j u hj => ?_⟩⟩, fun j p hj => ?_⟩
  · rw [add_mk, Nat.zero_add, hb.cell j]
    rw [← hj]
    simp
  · rcases j with _ | j
    · simp only [List.getElem?_cons_zero, Option.some.injEq] at hj
      subst hj
      exact ⟨_, rfl, A, l.length, c, rfl, hc, hm, rfl, hr⟩
    · simp at hj
theorem runeCalls_bytes' (n : Nat) : callsLen (List.replicate n runeC) = 4 * n := by
  induction n with
  | zero => rfl
  | succ n ih => rw [List.replicate_succ', callsLen_append, ih]; simp [callsLen, runeC]; omega
theorem wrunes_bytes (xs : List Int) : callsLen (xs.map wruneC) = 4 * xs.length := by
  unfold callsLen
  induction xs with
  | nil => rfl
  | cons x xs ih => simp only [List.map_cons, List.sum_cons, List.length_cons, wruneC, List.length_nil] at *; omega
theorem wrunes_wrote (xs : List Int) (h : ∀ x ∈ xs, -2147483648 ≤ x ∧ x ≤ 2147483647) : ((xs.map wruneC).map wrote).flatten = (xs.map encM).flatten := by
  rw [List.map_map]
  congr 1
  refine List.map_congr_left fun x hx => ?_
  exact wrote_wrune x (h x hx)
theorem enc_flat_len (xs : List Int) : ((xs.map encM).flatten).length ≤ 4 * xs.length := by
  induction xs with
  | nil => simp
  | cons x xs ih =>
    have := (encM_len x).2
    simp only [List.map_cons, List.flatten_cons, List.length_append, List.length_cons]
    omega
theorem written_runM (n : Nat) (hn : n ≤ 255) (xs : List Int) (t : WS) : (runM (newReader (rsize n) [(xs.map encM).flatten]) t (List.replicate xs.length runeC ++ [byteC])).2.2 = xs.map (fun x => runeOut (fixR x, (encM x).length)) ++ [endOut] := by
  have e : (sr0 ([(xs.map encM).flatten] : List (List UInt8)).flatten).rest = (xs.map encM).flatten := by simp [sr0, SR.rest]
  have h := written_run xs (sr0 ([(xs.map encM).flatten] : List (List UInt8)).flatten) e
  have := run_agree (List.replicate xs.length runeC ++ [byteC]) (sr0 ([(xs.map encM).flatten] : List (List UInt8)).flatten) (newReader (rsize n) [(xs.map encM).flatten]) t (agree_new n hn _) (fun c hc => by
    rw [List.mem_append, List.mem_singleton] at hc
    rcases hc with hc | hc
    · rw [List.eq_of_mem_replicate hc]; simp [runeC, isRd]
    · rw [hc]; simp [byteC, isRd]) (by rw [h])
  rw [this, h]
theorem call_reads' (w3 : World) (c : CallD) (Ab : Option Addr) (kb : Nat) {g : Nat} (hg : w3.heap.size = g) : Reads (w3.alloc (.cells (callCells c Ab kb) 34)) (w3.alloc (.cells (callCells c Ab kb) 34)).heap.size 4 (some ⟨g, 0, none⟩) 1 (callCells c Ab kb).toList := by
  subst hg; exact call_reads w3 c Ab kb

def Rw1 (xs : List Int) (w : World) (k : Nat) (t5 t6 t20 : Value) (wr : World) : Prop :=
  ∃ (i : Nat) (a1 : Option Addr) (c1 : Nat) (a2 : Option Addr) (c2 : Nat) (vs1 vs2 : List Value), i ≤ xs.length ∧ t20 = .int .i64 ((i : Nat) : Int) ∧ t5 = .slice a1 i c1 ∧ t6 = .slice a2 i c2 ∧
    CRow w.heap.size w.heap.size wr (.slice a1 i c1) ((xs.take i).map wruneC) vs1 ∧ CRow w.heap.size w.heap.size wr (.slice a2 i c2) (List.replicate i runeC) vs2 ∧
    (∀ g, (Value.slice a1 i c1).ownBlock = some g → (Value.slice a2 i c2).ownBlock ≠ some g) ∧ Below w.heap.size w wr ∧ k = xs.length - i
theorem rw_start (xs : List Int) (w : World) : Rw1 xs w xs.length (.slice (some ⟨w.heap.size, 0, none⟩) 0 0) (.slice (some ⟨w.heap.size + 1, 0, none⟩) 0 0) (.int .i64 0) ((w.alloc (.cells #[] 34)).alloc (.cells #[] 34)) := by
  have h1 := World.ownsRow_made (e := 34) (size := 4) (base := w.heap.size) w #[] 0 (Nat.le_refl _) (by simp [maxLen]) (by simp)
  have h1' := own_keep h1 ((Keep.refl (fun _ => False) _).alloc (.cells #[] 34)) (fun _ _ h => h)
  have h2 := World.ownsRow_made (e := 34) (size := 4) (base := w.heap.size) (w.alloc (.cells #[] 34)) #[] 0 (by simp) (by simp [maxLen]) (by simp)
  have e2 : (w.alloc (.cells #[] 34)).heap.size = w.heap.size + 1 := by simp
  rw [e2] at h2
  refine ⟨0, _, _, _, _, [], [], Nat.zero_le _, rfl, rfl, rfl, ⟨h1', CallsFlat.nil⟩, ⟨h2, CallsFlat.nil⟩, fun g hg hg2 => ?_, ((Below.refl _ _).alloc (Nat.le_refl _) _).alloc (by simp) _, rfl⟩
  simp [Value.ownBlock] at hg hg2
  omega

set_option maxRecDepth 100000 in
set_option maxHeartbeats 8000000 in
theorem law19 (E : Nat → Addr) (n : Nat) (hn : n ≤ 255) (A : Option Addr) (c : Nat) (xs : List Int) (w : World) (hE : Env w w.heap.size E) (ht : Lib.Utf8Tabs 9 10 w) (hx : Reads w w.heap.size 1 A xs.length (ivs xs)) (hxb : ∀ x ∈ xs, -2147483648 ≤ x ∧ x ≤ 2147483647) (hroom : Room (100 * xs.length + 1000)) :
    Calls Tryd.prog 19 #[.int .u8 (n : Nat), .slice A xs.length c] w (LawTrue w) := by
  obtain ⟨i0, hi0, hz0, hz1, hz2⟩ := info_parts Tryd.info34
  have HI := Lib.hid (And.intro hi0 (And.intro hz0 (And.intro hz1 hz2))); clear hi0 hz0 hz1 hz2
  have hrx : 100 * xs.length + 1000 ≤ 1000000000 := hroom
  have HE := Lib.hid (And.intro hE (And.intro ht (And.intro hx (And.intro hxb (rw_start xs w))))); clear hE ht hx hxb hroom
  go_enter Tryd.func19, Tryd.ntmps19
  go_wp2_with fail
  go_loopg [5, 6, 20] xs.length (fun k t5 t6 t20 wr => Rw1 xs w k t5 t6 t20 wr)
  case atStart => exact HE.out.2.2.2.2
  case round =>
    obtain ⟨i, a1, c1, a2, c2, vs1, vs2, hi, ht20, ht5, ht6, hr1, hr2, hne, hb, hk⟩ := hrel
    subst ht20 ht5 ht6
    have Hk := Lib.hid hk; clear hk
    by_cases hlt : i < xs.length
    · have hd : decide (i < xs.length) = true := by simpa using hlt
      obtain ⟨ad, u, e1, hadb, hu, hcell⟩ := (HE.out.2.2.1.below hb).at_ hlt
      have hxi := HE.out.2.2.2.1 xs[i] (List.getElem_mem hlt)
      have hst : (xs.take (i + 1)).map wruneC = (xs.take i).map wruneC ++ [wruneC xs[i]] := by
        rw [List.take_add_one, List.getElem?_eq_getElem hlt, Option.toList_some, List.map_append]; rfl
      unfold ivs at hu
      rw [List.getElem?_map, List.getElem?_eq_getElem hlt] at hu
      simp only [Option.map_some, Option.some.injEq] at hu
      subst hu e1
      generalize xs[i] = x at *
      have hwx : IntKind.i64.wrap x = x := IntWalk.i64_in x (by omega)
      have hl1 : ((xs.take i).map wruneC).length = i := by rw [List.length_map, List.length_take]; omega
      have hb1 : Below wr.heap.size wr (wr.alloc (.cells (callCells (wruneC x) none 0) 34)) := (Below.refl _ _).alloc (Nat.le_refl _) _
      have ho1 := own_keep hr1.own (Keep.ofBelow hb1 (fun _ => False)) (fun _ _ h => h)
      rw [hl1] at ho1
      have hrd1 := call_reads wr (wruneC x) none 0
      have hs1 : w.heap.size ≤ (wr.alloc (.cells (callCells (wruneC x) none 0) 34)).heap.size := Nat.le_trans hb.size hb1.size
      have hrm : Room (i + 1) := by unfold Room; omega
      have H := Lib.hid (And.intro hr1 (And.intro hr2 (And.intro hne (And.intro hb (And.intro hb1 (And.intro ho1 (And.intro hrd1 (And.intro hs1 (And.intro hrm (And.intro hst hl1)))))))))); clear hr1 hr2 hne hb hb1 ho1 hrd1 hs1 hrm hst hl1
      go_wp2_with (first | (at_builtin; refine wpList_append_any _ rfl (.tmp 24) (.tmp 28) _ rfl w.heap.size 34 i0 _ 4 48 Tryd.underlying23 HI.out.1 HI.out.2.1 HI.out.2.2.1 HI.out.2.2.2 rfl (by omega) (.slice a1 i c1) i vs1 rfl H.out.2.2.2.2.2.1 _ _ 1 1 (callCells (wruneC x) none 0).toList rfl H.out.2.2.2.2.2.2.1 (call_one _ _ _) H.out.2.2.2.2.2.2.2.2.1.len (H.out.2.2.2.2.2.2.2.2.1.bytes 48 (by omega)) H.out.2.2.2.2.2.2.2.1 ?_; intro v4 w4 hown4 hg4 hat4; obtain ⟨b4, k4, hv4⟩ := own_slice hown4; subst hv4; have hown4' : w4.ownsRow w.heap.size 34 4 (.slice b4 (i + 1) k4) (((xs.take i).map wruneC).length + 1) (vs1 ++ (callCells (wruneC x) none 0).toList) := (by rw [H.out.2.2.2.2.2.2.2.2.2.2]; exact hown4); have hz := ap_put H.out.1 H.out.2.1 H.out.2.2.1 H.out.2.2.2.1 H.out.2.2.2.2.1 (show (wruneC x).n ≤ 9223372036854775807 from (by show x ≤ _; omega)) Reads.none_ hown4' hg4 hat4; have hb5 : Below w4.heap.size w4 (w4.alloc (.cells (callCells runeC none 0) 34)) := (Below.refl _ _).alloc (Nat.le_refl _) _; have ho5 := own_keep hz.2.1.own (Keep.ofBelow hb5 (fun _ => False)) (fun _ _ h => h); rw [List.length_replicate] at ho5; have hr5 := call_reads w4 runeC none 0; have hs5 : w.heap.size ≤ (w4.alloc (.cells (callCells runeC none 0) 34)).heap.size := Nat.le_trans hz.2.2.2.size hb5.size; have H4 := Lib.hid (And.intro hz (And.intro hb5 (And.intro ho5 (And.intro hr5 hs5)))); clear hown4 hown4' hg4 hat4 hz hb5 ho5 hr5 hs5) | (at_builtin; refine wpList_append_any _ rfl (.tmp 30) (.tmp 32) _ rfl w.heap.size 34 i0 _ 4 48 Tryd.underlying23 HI.out.1 HI.out.2.1 HI.out.2.2.1 HI.out.2.2.2 rfl (by omega) (.slice a2 i c2) i vs2 rfl H4.out.2.2.1 _ _ 1 1 (callCells runeC none 0).toList rfl H4.out.2.2.2.1 (call_one _ _ _) H.out.2.2.2.2.2.2.2.2.1.len (H.out.2.2.2.2.2.2.2.2.1.bytes 48 (by omega)) H4.out.2.2.2.2 ?_; intro v6 w6 hown6 hg6 hat6; obtain ⟨b6, k6, hv6⟩ := own_slice hown6; subst hv6; have hown6' : w6.ownsRow w.heap.size 34 4 (.slice b6 (i + 1) k6) ((List.replicate i runeC).length + 1) (vs2 ++ (callCells runeC none 0).toList) := (by rw [List.length_replicate]; exact hown6); have hz6 := ap_put H4.out.1.2.1 H4.out.1.1 (ap_swap H4.out.1.2.2.1) H4.out.1.2.2.2 H4.out.2.1 (show runeC.n ≤ 9223372036854775807 from (by simp [runeC])) Reads.none_ hown6' hg6 hat6; have H6 := Lib.hid hz6; clear hown6 hown6' hg6 hat6 hz6))
      go_roundg (xs.length - (i + 1))
      case measure => have := Hk.out; omega
      case rel =>
        obtain ⟨q1, q2, q3, q4⟩ := H6.out
        refine ⟨i + 1, b4, k4, b6, k6, vs1 ++ (callCells (wruneC x) none 0).toList, vs2 ++ (callCells runeC none 0).toList, hlt, ?_, rfl, rfl, ?_, ?_, ap_swap q3, q4, rfl⟩
        · refine congrArg (Value.int .i64) ?_
          first | rfl | omega | (rw [IntWalk.wrap64_in _ (by omega)]; rfl)
        · rw [H.out.2.2.2.2.2.2.2.2.2.1]; exact q2
        · rw [List.replicate_succ']; exact q1
    · have hd : decide (i < xs.length) = false := by simpa using hlt
      have hix : i = xs.length := by omega
      subst hix
      rw [List.take_length] at hr1
      have hl1 : (xs.map wruneC).length = xs.length := List.length_map _
      have hb1 : Below wr.heap.size wr ((wr.alloc (.cells #[] 25)).alloc (.cells (callCells flushC none 0) 34)) := ((Below.refl _ _).alloc (Nat.le_refl _) _).alloc (by simp) _
      have ho1 := own_keep hr1.own (Keep.ofBelow hb1 (fun _ => False)) (fun _ _ h => h)
      rw [hl1] at ho1
      have hrd1 := call_reads' (wr.alloc (.cells #[] 25)) flushC none 0 (g := wr.heap.size + 1) (by simp)
      have hs1 : w.heap.size ≤ ((wr.alloc (.cells #[] 25)).alloc (.cells (callCells flushC none 0) 34)).heap.size := Nat.le_trans hb.size hb1.size
      have hrm : Room (xs.length + 1) := by unfold Room; omega
      have H := Lib.hid (And.intro hr1 (And.intro hr2 (And.intro hne (And.intro hb (And.intro hb1 (And.intro ho1 (And.intro hrd1 (And.intro hs1 (And.intro hrm hl1))))))))); clear hr1 hr2 hne hb hb1 ho1 hrd1 hs1 hrm hl1
      go_wp2_with (at_builtin; refine wpList_append_any _ rfl (.tmp 38) (.tmp 40) _ rfl w.heap.size 34 i0 _ 4 48 Tryd.underlying23 HI.out.1 HI.out.2.1 HI.out.2.2.1 HI.out.2.2.2 rfl (by omega) (.slice a1 xs.length c1) xs.length vs1 rfl H.out.2.2.2.2.2.1 _ _ 1 1 (callCells flushC none 0).toList rfl H.out.2.2.2.2.2.2.1 (call_one _ _ _) H.out.2.2.2.2.2.2.2.2.1.len (H.out.2.2.2.2.2.2.2.2.1.bytes 48 (by omega)) H.out.2.2.2.2.2.2.2.1 ?_; intro v4 w4 hown4 hg4 hat4; obtain ⟨b4, k4, hv4⟩ := own_slice hown4; subst hv4; have hown4' : w4.ownsRow w.heap.size 34 4 (.slice b4 (xs.length + 1) k4) ((xs.map wruneC).length + 1) (vs1 ++ (callCells flushC none 0).toList) := (by rw [H.out.2.2.2.2.2.2.2.2.2]; exact hown4); have hz := ap_put H.out.1 H.out.2.1 H.out.2.2.1 H.out.2.2.2.1 H.out.2.2.2.2.1 (show flushC.n ≤ 9223372036854775807 from (by simp [flushC])) Reads.none_ hown4' hg4 hat4; have H4 := Lib.hid hz; clear hown4 hown4' hg4 hat4 hz)
      have hbw4 := H4.out.2.2.2
      have hlc : (xs.map wruneC ++ [flushC]).length = xs.length + 1 := by simp
      have hcalls : CallsAt w4 w4.heap.size b4 (xs.map wruneC ++ [flushC]) := calls_own hlc.symm (by have := H4.out.1.own; rw [hlc] at this; exact this) H4.out.1.flat hbw4.size
      have hrun := run23 E n hn (some ⟨wr.heap.size, 0, none⟩) 0 [] b4 k4 (xs.map wruneC ++ [flushC]) w4 ((HE.out.1.below hbw4).more hbw4.size) (tabs_keep HE.out.2.1 (Keep.ofBelow hbw4 (fun _ => False)) (fun _ h => h.elim) HE.out.1.five) (no_piecesA _ _ _) hcalls (by simp [Room]) (by simp [Room]) (by rw [callsLen_append, wrunes_bytes]; simp [callsLen, flushC, Room]; omega)
      rw [flushed_got, wrunes_wrote xs HE.out.2.2.2.1, hlc] at hrun
      generalize (runM (newReader (rsize n) []) ⟨zeros (wsize n), 0, []⟩ (xs.map wruneC ++ [flushC])).2.2 = os0 at hrun
      have hGl := enc_flat_len xs
      have hR := written_runM n hn xs ⟨zeros (wsize n), 0, []⟩
      obtain ⟨G, hG⟩ : ∃ G, G = (xs.map encM).flatten := ⟨_, rfl⟩
      rw [← hG] at hrun hGl hR
      have H5 := Lib.hid (And.intro hrun hR); clear hrun hR hcalls hlc hG hbw4
      refine H5.out.1.mono ?_
      rintro e w5 ⟨a5, k5, gv, flat5, rfl, hown5, houts5, hgv, hb5⟩
      obtain ⟨ag, cg, rfl⟩ := own_slice hgv
      have hbw5 := below2 H4.out.2.2.2 hb5
      have hk5 := Keep.ofBelow hb5 (fun _ => False)
      have hc1 := H4.out.1.keep hk5 (fun _ _ h => h) (fun _ h => h.elim) H4.out.2.2.2.size
      have hc2 := H4.out.2.1.keep hk5 (fun _ _ h => h) (fun _ h => h.elim) H4.out.2.2.2.size
      have hne5 := own_own_ne hc2.own hgv (by decide)
      have hbp : Below w5.heap.size w5 (w5.alloc (.cells #[.slice ag G.length cg] 25)) := (Below.refl _ _).alloc (Nat.le_refl _) _
      have hb6 : Below w5.heap.size w5 ((w5.alloc (.cells #[.slice ag G.length cg] 25)).alloc (.cells (callCells byteC none 0) 34)) := hbp.alloc hbp.size _
      have ho6 := own_keep hc2.own (Keep.ofBelow hb6 (fun _ => False)) (fun _ _ h => h)
      rw [List.length_replicate] at ho6
      have hrd6 := call_reads' (w5.alloc (.cells #[.slice ag G.length cg] 25)) byteC none 0 (g := w5.heap.size + 1) (by simp)
      have hs6 : w.heap.size ≤ ((w5.alloc (.cells #[.slice ag G.length cg] 25)).alloc (.cells (callCells byteC none 0) 34)).heap.size := Nat.le_trans hbw5.size hb6.size
      have hrm : Room (xs.length + 1) := by unfold Room; omega
      have H6 := Lib.hid (And.intro hc1 (And.intro hc2 (And.intro hbw5 (And.intro (And.intro hne5 hgv) (And.intro hbp (And.intro hb6 (And.intro ho6 (And.intro hrd6 (And.intro hs6 hrm))))))))); clear hc1 hc2 hbw5 hne5 hbp hb6 ho6 hrd6 hs6 hrm hk5 hown5 houts5 hgv hb5
      go_wp2_with (at_builtin; refine wpList_append_any _ rfl (.tmp 49) (.tmp 51) _ rfl w.heap.size 34 i0 _ 4 48 Tryd.underlying23 HI.out.1 HI.out.2.1 HI.out.2.2.1 HI.out.2.2.2 rfl (by omega) (.slice a2 xs.length c2) xs.length vs2 rfl H6.out.2.2.2.2.2.2.1 _ _ 1 1 (callCells byteC none 0).toList rfl H6.out.2.2.2.2.2.2.2.1 (call_one _ _ _) H6.out.2.2.2.2.2.2.2.2.2.len (H6.out.2.2.2.2.2.2.2.2.2.bytes 48 (by omega)) H6.out.2.2.2.2.2.2.2.2.1 ?_; intro v7 w7 hown7 hg7 hat7; obtain ⟨b7, k7, hv7⟩ := own_slice hown7; subst hv7; have hown7' : w7.ownsRow w.heap.size 34 4 (.slice b7 (xs.length + 1) k7) ((List.replicate xs.length runeC).length + 1) (vs2 ++ (callCells byteC none 0).toList) := (by rw [List.length_replicate]; exact hown7); have hz := ap_put H6.out.2.1 H6.out.1 (ap_swap H4.out.2.2.1) H6.out.2.2.1 H6.out.2.2.2.2.2.1 (show byteC.n ≤ 9223372036854775807 from (by simp [byteC])) Reads.none_ hown7' hg7 hat7; have hk7 : Keep (fun k => (Value.slice a2 xs.length c2).ownBlock = some k) ((w5.alloc (.cells #[.slice ag G.length cg] 25)).alloc (.cells (callCells byteC none 0) 34)) w7 := (Keep.refl _ _).grown hg7 (fun k hk => .inl hk); have H7 := Lib.hid (And.intro hz hk7); clear hown7 hown7' hg7 hat7 hz hk7)
      have hbw7 := H7.out.1.2.2.2
      have hlt2 : ∀ k, (Value.slice a2 xs.length c2).ownBlock = some k → k < w5.heap.size := fun k hk => (H6.out.2.1.own.lt k hk).2
      have hblk7 : Blk w7 w5.heap.size 25 #[.slice ag G.length cg] := ((Blk.new w5 25 _).alloc _).keep H7.out.2 (fun e => by have := hlt2 _ e; omega)
      have hgv7 : w7.ownsRow w4.heap.size 5 1 (.slice ag G.length cg) G.length (bvs G) := own_keep H6.out.2.2.2.1.2 ((Keep.ofBelow H6.out.2.2.2.2.2.1 _).trans H7.out.2) (fun k hk e => H6.out.2.2.2.1.1 k e hk)
      have hpc := pieces_blk hblk7 (Reads.of_own hgv7) (own_cap hgv7) (own_max' hgv7)
      have hlc : (List.replicate xs.length runeC ++ [byteC]).length = xs.length + 1 := by simp
      have hcalls : CallsAt w7 w7.heap.size b7 (List.replicate xs.length runeC ++ [byteC]) := calls_own hlc.symm (by have := H7.out.1.1.own; rw [hlc] at this; exact this) H7.out.1.1.flat hbw7.size
      have hrun := run23 E n hn (some ⟨w5.heap.size, 0, none⟩) 1 [G] b7 k7 (List.replicate xs.length runeC ++ [byteC]) w7 ((HE.out.1.below hbw7).more hbw7.size) (tabs_keep HE.out.2.1 (Keep.ofBelow hbw7 (fun _ => False)) (fun _ h => h.elim) HE.out.1.five) hpc hcalls (by simp [Room]; omega) (by simp [Room]) (by rw [callsLen_append, runeCalls_bytes']; simp [callsLen, byteC, Room]; omega)
      rw [H5.out.2, hlc] at hrun
      generalize (runM (newReader (rsize n) [G]) ⟨zeros (wsize n), 0, []⟩ (List.replicate xs.length runeC ++ [byteC])).2.1.got = got at hrun
      obtain ⟨os, hos⟩ : ∃ os, os = xs.map (fun x => runeOut (fixR x, (encM x).length)) ++ [endOut] := ⟨_, rfl⟩
      have hol : os.length = xs.length + 1 := by rw [hos]; simp
      rw [← hos] at hrun
      have H8 := Lib.hid (And.intro hrun (And.intro hbw7 (And.intro hol hos))); clear hrun hbw7 hol hos hcalls hlc hpc hgv7 hblk7 hlt2
      refine H8.out.1.mono ?_
      rintro e w8 ⟨a8, k8, gv8, flat8, rfl, hown8, houts8, hgv8, hb8⟩
      have hO := outs_b rfl hown8 houts8
      obtain ⟨ag8, cg8, rfl⟩ := own_slice hgv8
      have hbw8 := below2 H8.out.2.1 hb8
      have hol := H8.out.2.2.1
      rw [hol]
      have hxo : xs.length < os.length := by omega
      have hoj : os[xs.length] = endOut := by
        have h2 : os[xs.length]? = some endOut := by rw [H8.out.2.2.2, List.getElem?_append_right (by simp)]; simp
        rw [List.getElem?_eq_getElem hxo] at h2
        injection h2
      obtain ⟨ad, A', c5, e1, hadB, x0, x1, x2, xr⟩ := hO.at_ hxo
      rw [hoj] at x0 x1 x2
      simp only [endOut] at x0 x1 x2
      subst e1
      have H9 := Lib.hid (And.intro hO (And.intro hbw8 (HE.out.2.2.1.below hbw8))); clear hown8 houts8 hgv8 hb8 hO hbw8 hol hoj xr x0 x1
      have hj4 : (xs.length : Int) < (xs.length : Int) + 1 := by omega
      go_wp2_with fail
      go_loopg [73] xs.length (fun k t73 wr => ∃ j, j ≤ xs.length ∧ t73 = .int .i64 ((j : Nat) : Int) ∧ wr = w8 ∧ k = xs.length - j)
      case atStart => exact ⟨0, Nat.zero_le _, rfl, rfl, rfl⟩
      case round =>
        clear x2
        obtain ⟨j, hj, ht73, hwr, hk⟩ := hrel
        subst ht73 hwr
        have Hk2 := Lib.hid hk; clear hk
        by_cases hlt2 : j < xs.length
        · have hd2 : decide (j < xs.length) = true := by simpa using hlt2
          have hjo : j < os.length := by omega
          have hoj : os[j] = runeOut (fixR xs[j], (encM xs[j]).length) := by
            have h2 : os[j]? = some (runeOut (fixR xs[j], (encM xs[j]).length)) := by rw [H8.out.2.2.2, List.getElem?_append_left (by simpa using hlt2), List.getElem?_map, List.getElem?_eq_getElem hlt2]; rfl
            rw [List.getElem?_eq_getElem hjo] at h2
            injection h2
          obtain ⟨ad', A', c5, e1, hadB, x0, x1, x2, xr⟩ := H9.out.1.at_ hjo
          obtain ⟨adx, u, e2, hadb, hu, hcell⟩ := H9.out.2.2.at_ hlt2
          have hxi := HE.out.2.2.2.1 xs[j] (List.getElem_mem hlt2)
          unfold ivs at hu
          rw [List.getElem?_map, List.getElem?_eq_getElem hlt2] at hu
          simp only [Option.map_some, Option.some.injEq] at hu
          rw [hoj] at x1 x2
          simp only [runeOut] at x1 x2
          subst hu e2
          injection e1 with e1
          subst e1
          clear hoj xr x0
          generalize xs[j] = x at *
          have hwx : IntKind.i64.wrap x = x := IntWalk.i64_in x (by omega)
          have hj3 : (j : Int) < (xs.length : Int) + 1 := by omega
          have hc5 : (x < 0) ∨ (0 ≤ x ∧ 1114111 < x) ∨ (0 ≤ x ∧ x ≤ 1114111 ∧ 55296 ≤ x ∧ x ≤ 57343) ∨ (0 ≤ x ∧ x < 55296) ∨ (57343 < x ∧ x ≤ 1114111) := by omega
          rcases hc5 with g1 | ⟨g1, g2⟩ | ⟨g1, g2, g3, g4⟩ | ⟨g1, g2⟩ | ⟨g1, g2⟩
          · have hfx : fixR x = 65533 := by unfold fixR; rw [if_pos (by omega)]
            rw [hfx] at x1
            clear hfx
            go_wp2_with fail
            go_roundg (xs.length - (j + 1))
            case measure => have := Hk2.out; omega
            case rel => exact ⟨j + 1, hlt2, by go_num, rfl, rfl⟩
          · have hfx : fixR x = 65533 := by unfold fixR; rw [if_pos (by omega)]
            rw [hfx] at x1
            clear hfx
            go_wp2_with fail
            go_roundg (xs.length - (j + 1))
            case measure => have := Hk2.out; omega
            case rel => exact ⟨j + 1, hlt2, by go_num, rfl, rfl⟩
          · have hfx : fixR x = 65533 := by unfold fixR; rw [if_pos (by omega)]
            rw [hfx] at x1
            clear hfx
            go_wp2_with fail
            go_roundg (xs.length - (j + 1))
            case measure => have := Hk2.out; omega
            case rel => exact ⟨j + 1, hlt2, by go_num, rfl, rfl⟩
          · have hfx : ((fixR x : Nat) : Int) = x := by unfold fixR; rw [if_neg (by omega)]; omega
            rw [hfx] at x1
            clear hfx
            go_wp2_with fail
            go_roundg (xs.length - (j + 1))
            case measure => have := Hk2.out; omega
            case rel => exact ⟨j + 1, hlt2, by go_num, rfl, rfl⟩
          · have hfx : ((fixR x : Nat) : Int) = x := by unfold fixR; rw [if_neg (by omega)]; omega
            rw [hfx] at x1
            clear hfx
            have g3 : 0 ≤ x := by omega
            have g4 : 55296 ≤ x := by omega
            go_wp2_with fail
            go_roundg (xs.length - (j + 1))
            case measure => have := Hk2.out; omega
            case rel => exact ⟨j + 1, hlt2, by go_num, rfl, rfl⟩
        · have hd2 : decide (j < xs.length) = false := by simpa using hlt2
          go_wp2_with fail
          go_ret
          exact ⟨rfl, H9.out.2.1⟩
end Go.Proofs.YtancmlapnhccdaaDoor
