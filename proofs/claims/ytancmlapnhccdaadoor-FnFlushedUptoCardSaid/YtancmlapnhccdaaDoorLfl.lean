/- laws.FnFlushed: the walk. -/
import Derived.Test.YtancmlapnhccdaaDoorClo
namespace Go.Proofs.YtancmlapnhccdaaDoor
open Go.RowKit

/-- all that calls write -/
def allW (cs : List CallD) : List UInt8 := (cs.map wrote).flatten
theorem allW_take (cs : List CallD) (i : Nat) (h : i < cs.length) : allW (cs.take (i + 1)) = allW (cs.take i) ++ wrote cs[i] := by
  unfold allW
  rw [List.take_add_one, List.getElem?_eq_getElem h, List.map_append, List.flatten_append]
  simp
theorem allW_len (cs : List CallD) : (allW cs).length ≤ callsLen cs := by
  unfold allW
  induction cs with
  | nil => simp [callsLen]
  | cons c cs ih =>
    have := wrote_len c
    have h3 : callsLen (c :: cs) = (c.bytes.length + 4) + callsLen cs := by simp [callsLen]
    simp only [List.map_cons, List.flatten_cons, List.length_append]
    omega

def FlRel (cs : List CallD) (w : World) (k : Nat) (t5 t15 : Value) (wr : World) : Prop :=
  ∃ i a c, i ≤ cs.length ∧ t15 = .int .i64 ((i : Nat) : Int) ∧ t5 = .slice a (allW (cs.take i)).length c ∧ wr.ownsRow w.heap.size 5 1 (.slice a (allW (cs.take i)).length c) (allW (cs.take i)).length (bvs (allW (cs.take i))) ∧ Below w.heap.size w wr ∧ k = cs.length - i

theorem no_pieces (w : World) (B : Nat) (A : Option Addr) : PiecesAt w B A [] := ⟨[], Reads.none_, fun j p hj => by simp at hj⟩

set_option maxRecDepth 100000 in
set_option maxHeartbeats 2000000 in
theorem law10 (E : Nat → Addr) (n : Nat) (hn : n ≤ 255) (A2 : Option Addr) (c2 : Nat) (cs : List CallD) (w : World) (hE : Env w w.heap.size E) (ht : Lib.Utf8Tabs 9 10 w) (hc : CallsAt w w.heap.size A2 cs) (hcl : Room (callsLen cs + 1000)) :
    Calls Tryd.prog 10 #[.int .u8 (n : Nat), .slice A2 cs.length c2] w (LawTrue w) := by
  obtain ⟨j0, hj0, hy0, hy1, hy2⟩ := info_parts Tryd.info5
  have HJ := Lib.hid (And.intro hj0 (And.intro hy0 (And.intro hy1 hy2))); clear hj0 hy0 hy1 hy2
  obtain ⟨i0, hi0, hz0, hz1, hz2⟩ := info_parts Tryd.info34
  have HI := Lib.hid (And.intro hi0 (And.intro hz0 (And.intro hz1 hz2))); clear hi0 hz0 hz1 hz2
  have hown : (w.alloc (.cells #[] 5)).ownsRow w.heap.size 5 1 (.slice (some ⟨w.heap.size, 0, none⟩) 0 0) 0 [] := World.ownsRow_made w #[] 0 (Nat.le_refl _) (by simp [maxLen]) (by simp)
  have HE := Lib.hid (And.intro hE (And.intro ht (And.intro hc (And.intro hcl hown)))); clear hE ht hc hcl hown
  go_enter Tryd.func10, Tryd.ntmps10
  go_wp2_with fail
  go_loopg [5, 15] cs.length (fun k t5 t15 wr => FlRel cs w k t5 t15 wr)
  case atStart => exact ⟨0, _, _, Nat.zero_le _, rfl, rfl, HE.out.2.2.2.2, (Below.refl _ _).alloc (Nat.le_refl _) _, rfl⟩
  case round =>
    obtain ⟨i, a, c, hi, ht15, ht5, hown, hb, hk⟩ := hrel
    subst ht15 ht5
    have Hk := Lib.hid hk; clear hk
    have hic : i ≤ 1000000000 := by have h1 := HE.out.2.2.2.1; have h2 := callsLen_ge cs; unfold Room at h1; omega
    by_cases hlt : i < cs.length
    · have hd : decide (i < cs.length) = true := by simpa using hlt
      obtain ⟨hmax, ad, Ab, kb, rfl, hadb, hrb, hcell⟩ := (HE.out.2.2.1.below hb).at_ hlt
      obtain ⟨x, hx⟩ : ∃ x, x = cs[i] := ⟨_, rfl⟩
      rw [← hx] at hrb hcell
      have hst := allW_take cs i hlt
      rw [← hx] at hst
      have hal : (allW (cs.take i)).length + (wrote x).length ≤ 1000000000 := by
        have h1 := allW_len (cs.take (i + 1))
        have h2 := callsLen_le cs (i + 1)
        have h3 := HE.out.2.2.2.1
        rw [hst, List.length_append] at h1
        unfold Room at h3
        omega
      have d0 : wr.cell? (ad.add (i * 4)) = some (.int .i64 x.kind) := hcell 0 _ rfl
      have d1 : wr.cell? ⟨(ad.add (i * 4)).block, (ad.add (i * 4)).off + 1, none⟩ = some (.int .i64 x.n) := by
        have := hcell 1 _ rfl
        rw [← add_of_add] at this
        exact this
      have d2 : wr.cell? ⟨(ad.add (i * 4)).block, (ad.add (i * 4)).off + 2, none⟩ = some (.int .u8 (x.delim.toNat : Int)) := by
        have := hcell 2 _ rfl
        rw [← add_of_add] at this
        exact this
      have d3 : wr.cell? ⟨(ad.add (i * 4)).block, (ad.add (i * 4)).off + 3, none⟩ = some (.slice Ab x.bytes.length kb) := by
        have := hcell 3 _ rfl
        rw [← add_of_add] at this
        exact this
      generalize allW (cs.take i) = q at *
      have hb1 : Below wr.heap.size wr (wr.alloc (.cells (callCells x Ab kb) 34)) := (Below.refl _ _).alloc (Nat.le_refl _) _
      have hW := written29 x Ab kb (wr.alloc (.cells (callCells x Ab kb) 34)) w.heap.size (Nat.le_trans hb.size hb1.size) (hrb.below (hb1.mono hb.size))
      have HW := Lib.hid (And.intro hown (And.intro hb (And.intro hst (And.intro hal (And.intro hb1 hW))))); clear hown hb hst hal hb1 hW hx hcell hrb hmax
      go_wp2_with fail
      refine HW.out.2.2.2.2.2.mono ?_
      rintro e w2 ⟨A', k', rfl, hrd2, hb2, _⟩
      have hb3 := HW.out.2.2.2.2.1.trans (hb2.mono HW.out.2.2.2.2.1.size)
      obtain ⟨p, hp⟩ : ∃ p, p = wrote x := ⟨_, rfl⟩
      obtain ⟨nn, hnn⟩ : ∃ nn, nn = (wrOut x).n := ⟨_, rfl⟩
      rw [← hp, ← hnn]
      rw [← hp] at hrd2
      have hbo : Below w2.heap.size w2 (w2.alloc (.cells (outCells none 0 0 nn 0) 36)) := (Below.refl _ _).alloc (Nat.le_refl _) _
      have hb4 := hb3.trans (hbo.mono hb3.size)
      have hown3 := own_keep HW.out.1 (Keep.ofBelow hb4 (fun _ => False)) (fun _ _ h => h)
      have hrd3 := (hrd2.below hbo).more hbo.size
      have hsz3 : w.heap.size ≤ (w2.alloc (.cells (outCells none 0 0 nn 0) 36)).heap.size := Nat.le_trans HW.out.2.1.size hb4.size
      have hrm : Room (q.length + p.length) := by rw [hp]; exact HW.out.2.2.2.1
      have H3 := Lib.hid (And.intro hown3 (And.intro hrd3 (And.intro (bvs_one p) (And.intro hrm (And.intro hsz3 (And.intro hb4 hp)))))); clear hown3 hrd3 hrm hsz3 hb4 hb3 hbo hrd2 hb2 hp hnn d0 d1 d2 d3
      simp only [outCells] at H3 ⊢
      go_wp2_with (at_builtin; refine wpList_append_any _ rfl (.tmp 24) (.tmp 25) _ rfl w.heap.size 5 j0 _ 1 1 Tryd.underlying25 HJ.out.1 HJ.out.2.1 HJ.out.2.2.1 HJ.out.2.2.2 rfl (by omega) (.slice a q.length c) q.length (bvs q) rfl H3.out.1 _ A' p.length k' (bvs p) rfl H3.out.2.1 H3.out.2.2.1 H3.out.2.2.2.1.len (H3.out.2.2.2.1.bytes 1 (by omega)) H3.out.2.2.2.2.1 ?_; intro v1 w4 hown1 hg1 hat1; obtain ⟨b1, k1, hv1⟩ := own_slice hown1; subst hv1; have H4 := Lib.hid (And.intro hown1 hg1); clear hown1 hg1 hat1)
      go_roundg (cs.length - (i + 1))
      case measure => have := Hk.out; omega
      case rel =>
        obtain ⟨hown1, hg1⟩ := H4.out
        have hst := HW.out.2.2.1
        rw [← H3.out.2.2.2.2.2.2] at hst
        refine ⟨i + 1, b1, k1, hlt, ?_, ?_, ?_, ?_, rfl⟩
        · refine congrArg (Value.int .i64) ?_
          first | rfl | omega | (rw [IntWalk.wrap64_in _ (by omega)]; rfl)
        · rw [hst, List.length_append]
        · rw [hst, List.length_append, bvs_append]; exact hown1
        · exact grown_below HW.out.2.1 H3.out.2.2.2.2.2.1 HW.out.1 hg1 (Nat.le_refl _)
    · have hd : decide (i < cs.length) = false := by simpa using hlt
      have hall : cs.take i = cs := List.take_of_length_le (by omega)
      rw [hall] at hown ⊢
      obtain ⟨q, hq⟩ : ∃ q, q = allW cs := ⟨_, rfl⟩
      rw [← hq] at hown ⊢
      obtain ⟨vs, hrv, hfv⟩ := (HE.out.2.2.1.below hb).flat
      -- the worlds: pieces, calls, the flush
      obtain ⟨u1, hu1⟩ : ∃ u1, u1 = (wr.alloc (.cells #[] 25)).alloc (.cells #[] 34) := ⟨_, rfl⟩
      have hbu : Below wr.heap.size wr u1 := by rw [hu1]; exact ((Below.refl _ _).alloc (Nat.le_refl _) _).alloc (by simp) _
      have hownC : u1.ownsRow (wr.heap.size + 1) 34 4 (.slice (some ⟨wr.heap.size + 1, 0, none⟩) 0 0) 0 [] := by
        rw [hu1]
        have := World.ownsRow_made (e := 34) (size := 4) (base := wr.heap.size + 1) (wr.alloc (.cells #[] 25)) #[] 0 (by simp) (by simp [maxLen]) (by simp)
        simpa using this
      have hrv1 : Reads u1 w.heap.size 4 A2 cs.length vs := hrv.below (hbu.mono hb.size)
      have hszu : wr.heap.size + 1 ≤ u1.heap.size := by rw [hu1]; simp
      have hrm : Room (0 + cs.length) := by rw [Nat.zero_add]; exact HE.out.2.2.2.1.mono (by have := callsLen_ge cs; omega)
      have H1 := Lib.hid (And.intro hownC (And.intro hrv1 (And.intro (flat_one hfv) (And.intro hrm (And.intro hszu (And.intro hbu (And.intro hfv (And.intro hown (And.intro hb hq))))))))); clear hownC hrv1 hrm hszu hbu hrv hfv hown hb hq
      subst hu1
      go_wp2_with (first | (at_builtin; refine wpList_append_any _ rfl (.tmp 31) (.tmp 32) _ rfl (wr.heap.size + 1) 34 i0 _ 4 48 Tryd.underlying23 HI.out.1 HI.out.2.1 HI.out.2.2.1 HI.out.2.2.2 rfl (by omega) (.slice (some ⟨wr.heap.size + 1, 0, none⟩) 0 0) 0 [] rfl H1.out.1 w.heap.size A2 cs.length c2 vs rfl H1.out.2.1 H1.out.2.2.1 H1.out.2.2.2.1.len (H1.out.2.2.2.1.bytes 48 (by omega)) H1.out.2.2.2.2.1 ?_; intro v2 w4 hown1 hg1 hat1; simp only [Nat.zero_add, List.nil_append] at hown1; obtain ⟨b2, k2, hv1⟩ := own_slice hown1; subst hv1; have hbw : Below wr.heap.size wr w4 := H1.out.2.2.2.2.2.1.grown hg1 H1.out.2.2.2.2.2.1.size (fun k hk => (by have := (H1.out.1.lt k hk).1; omega)); have ho5 := own_keep hown1 ((Keep.refl (fun _ => False) _).alloc (.cells (callCells flushC none 0) 34)) (fun _ _ h => h); have hr5 := call_reads w4 flushC none 0; have hs5 : wr.heap.size + 1 ≤ (w4.alloc (.cells (callCells flushC none 0) 34)).heap.size := (by have h1 := hg1.size; have h2 := H1.out.2.2.2.2.1; simp at h1 h2 ⊢; omega); have hrm5 : Room (cs.length + 1) := (by have h1 := HE.out.2.2.2.1; have h2 := callsLen_ge cs; unfold Room at *; omega); have H4 := Lib.hid (And.intro hbw (And.intro ho5 (And.intro hr5 (And.intro hs5 hrm5)))); clear hown1 hg1 hat1 hbw ho5 hr5 hs5 hrm5) | (at_builtin; refine wpList_append_any _ rfl (.tmp 33) (.tmp 35) _ rfl (wr.heap.size + 1) 34 i0 _ 4 48 Tryd.underlying23 HI.out.1 HI.out.2.1 HI.out.2.2.1 HI.out.2.2.2 rfl (by omega) (.slice b2 cs.length k2) cs.length vs rfl H4.out.2.1 _ _ 1 1 (callCells flushC none 0).toList rfl H4.out.2.2.1 (call_one _ _ _) H4.out.2.2.2.2.len (H4.out.2.2.2.2.bytes 48 (by omega)) H4.out.2.2.2.1 ?_; intro v3 w5 hown1 hg1 hat1; obtain ⟨b3, k3, hv1⟩ := own_slice hown1; subst hv1; have H5 := Lib.hid (And.intro hown1 (And.intro hg1 hat1)); clear hown1 hg1 hat1))
      have hb5 : Below wr.heap.size wr w5 := by
        have h1 : Below wr.heap.size wr (w4.alloc (.cells (callCells flushC none 0) 34)) := H4.out.1.alloc H4.out.1.size _
        exact h1.grown H5.out.2.1 h1.size (fun k hk => by have := (H4.out.2.1.lt k hk).1; omega)
      have hfl : CallsFlat w5 w.heap.size (vs ++ (callCells flushC none 0).toList) (cs ++ [flushC]) := by
        have h1 : CallsFlat w5 w.heap.size vs cs := H1.out.2.2.2.2.2.2.1.below (hb5.mono H1.out.2.2.2.2.2.2.2.2.1.size)
        exact h1.append (CallsFlat.one (by simp [flushC]) Reads.none_)
      have hbw := below2 H1.out.2.2.2.2.2.2.2.2.1 hb5
      have hcalls : CallsAt w5 w5.heap.size b3 (cs ++ [flushC]) := calls_own (by simp) H5.out.1 hfl hbw.size
      have hrun := run23 E n hn (some ⟨wr.heap.size, 0, none⟩) 0 [] b3 k3 (cs ++ [flushC]) w5 ((HE.out.1.below hbw).more hbw.size) (tabs_keep HE.out.2.1 (Keep.ofBelow hbw (fun _ => False)) (fun _ h => h.elim) HE.out.1.five) (no_pieces _ _ _) hcalls (by simp [Room]) (by simp [Room]) (by
        rw [callsLen_append]
        have h1 := HE.out.2.2.2.1
        unfold Room at *
        simp [callsLen, flushC] at *
        omega)
      rw [flushed_got] at hrun
      have hgq : (cs.map wrote).flatten = q := H1.out.2.2.2.2.2.2.2.2.2.symm
      rw [hgq] at hrun
      have hlen := runM_len (cs ++ [flushC]) (newReader (rsize n) []) ⟨zeros (wsize n), 0, []⟩
      generalize (runM (newReader (rsize n) []) ⟨zeros (wsize n), 0, []⟩ (cs ++ [flushC])).2.2 = os at hrun hlen
      rw [List.length_append, List.length_singleton] at hrun hlen
      have hown6 := own_keep H1.out.2.2.2.2.2.2.2.1 (Keep.ofBelow hb5 (fun _ => False)) (fun _ _ h => h)
      have hcsl : cs.length ≤ 1000000000 := by have h1 := HE.out.2.2.2.1; have h2 := callsLen_ge cs; unfold Room at h1; omega
      have H6 := Lib.hid (And.intro hrun (And.intro hbw (And.intro hlen hown6))); clear hrun hbw hlen hown6 hcalls hfl hb5 hgq
      refine H6.out.1.mono ?_
      rintro e w7 ⟨a7, c7, gv, flat7, rfl, hown7, houts7, hgv, hb7⟩
      rw [H6.out.2.2.1]
      obtain ⟨ag, cg, rfl⟩ := own_slice hgv
      have hown8 := own_keep H6.out.2.2.2 (Keep.ofBelow hb7 (fun _ => False)) (fun _ _ h => h)
      have q1 := conv_str (c := cg) (Reads.of_own hgv)
      have q2 := conv_str (c := c) (Reads.of_own hown8)
      have H7 := Lib.hid hb7; clear hown7 houts7 hgv hb7 hown8
      generalize q.length = m at *
      generalize cs.length = cl at *
      go_wp2_with fail
      go_ret
      exact ⟨rfl, below2 H6.out.2.1 H7.out⟩
end Go.Proofs.YtancmlapnhccdaaDoor
