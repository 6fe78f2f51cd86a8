/- laws.FnRunes: the walk. -/
import Derived.Test.YtancmlapnhccdaaDoorLru
namespace Go.Proofs.YtancmlapnhccdaaDoor
open Go.RowKit

theorem runeCalls_bytes (n : Nat) : callsLen (List.replicate n runeC) = 4 * n := by
  induction n with
  | zero => rfl
  | succ n ih => rw [List.replicate_succ', callsLen_append, ih]; simp [callsLen, runeC]; omega
theorem runes_runM (n : Nat) (hn : n ≤ 255) (ps : List (List UInt8)) (t : WS) : (runM (newReader (rsize n) ps) t (List.replicate ((runesL ps.flatten).length + 1) runeC)).2.2 = (runesL ps.flatten).map runeOut ++ [endOut] := by
  have h := runes_run ps.flatten.length (sr0 ps.flatten) (Nat.le_refl _)
  have e : (sr0 ps.flatten).rest = ps.flatten := rfl
  rw [e] at h
  have := run_agree (List.replicate ((runesL ps.flatten).length + 1) runeC) (sr0 ps.flatten) (newReader (rsize n) ps) t (agree_new n hn ps) (fun c hc => by rw [List.eq_of_mem_replicate hc]; simp [runeC, isRd]) (by rw [h])
  rw [this, h]

def Rn1 (m : Nat) (w1 : World) (k : Nat) (t7 t8 : Value) (wr : World) : Prop :=
  ∃ i a c vs, i ≤ m + 1 ∧ t8 = .int .i64 ((i : Nat) : Int) ∧ t7 = .slice a i c ∧ wr.ownsRow w1.heap.size 34 4 (.slice a i c) i vs ∧ CallsFlat wr w1.heap.size vs (List.replicate i runeC) ∧ Below w1.heap.size w1 wr ∧ k = m + 1 - i

set_option maxRecDepth 100000 in
set_option maxHeartbeats 4000000 in
theorem law18 (E : Nat → Addr) (n : Nat) (hn : n ≤ 255) (A : Option Addr) (c : Nat) (ps : List (List UInt8)) (w : World) (hE : Env w w.heap.size E) (ht : Lib.Utf8Tabs 9 10 w) (hp : PiecesAt w w.heap.size A ps) (hroom : Room (100 * ps.flatten.length + 255)) (hl : Room ps.length) :
    Calls Tryd.prog 18 #[.int .u8 (n : Nat), .slice A ps.length c] w (LawTrue w) := by
  obtain ⟨i0, hi0, hz0, hz1, hz2⟩ := info_parts Tryd.info34
  have HI := Lib.hid (And.intro hi0 (And.intro hz0 (And.intro hz1 hz2))); clear hi0 hz0 hz1 hz2
  obtain ⟨all, hall⟩ : ∃ all, all = ps.flatten := ⟨_, rfl⟩
  have hab : 100 * all.length + 255 ≤ 1000000000 := by rw [hall]; exact hroom
  have hroom2 : Room (ps.flatten.length + 255) := hroom.mono (by omega)
  have Hall := Lib.hid hall; clear hall
  have HE := Lib.hid (And.intro hE (And.intro ht (And.intro hp (And.intro hroom2 hl)))); clear hE hp hroom hl ht hroom2
  go_enter Tryd.func18, Tryd.ntmps18
  go_wp2_with fail
  refine (joined22 A c ps w HE.out.2.2.1 (HE.out.2.2.2.1.mono (by omega)) HE.out.2.2.2.2).mono ?_
  rintro e w0 ⟨v1, rfl, hown1, hb1⟩
  rw [← Hall.out] at hown1
  obtain ⟨a1, c1, rfl⟩ := own_slice hown1
  have hR := runes30 all a1 c1 w0 (Reads.of_own hown1) (own_cap hown1) (own_nil hown1) (by omega)
  have H0 := Lib.hid (And.intro hR hb1); clear hown1 hb1 hR
  go_wp2_with fail
  refine H0.out.1.mono ?_
  rintro e w1 ⟨ra, rc, sa, sc, rfl, ho1, ho2, hb2⟩
  have hrl := runes_len all
  obtain ⟨rs, hrs⟩ : ∃ rs, rs = runesL all := ⟨_, rfl⟩
  rw [← hrs] at ho1 ho2 hrl ⊢
  have hbw1 := below2 H0.out.2 hb2
  have hown0 : (w1.alloc (.cells #[] 34)).ownsRow w1.heap.size 34 4 (.slice (some ⟨w1.heap.size, 0, none⟩) 0 0) 0 [] := World.ownsRow_made w1 #[] 0 (Nat.le_refl _) (by simp [maxLen]) (by simp)
  have H1 := Lib.hid (And.intro ho1 (And.intro ho2 (And.intro hbw1 (And.intro hown0 hrs)))); clear ho1 ho2 hb2 hbw1 hown0 hrs
  have hrm0 : 100 * rs.length + 255 ≤ 1000000000 := by omega
  clear hrl
  go_wp2_with fail
  go_loopg [7, 8] (rs.length + 1) (fun k t7 t8 wr => Rn1 rs.length w1 k t7 t8 wr)
  case atStart => exact ⟨0, _, _, [], Nat.zero_le _, rfl, rfl, H1.out.2.2.2.1, CallsFlat.nil, (Below.refl _ _).alloc (Nat.le_refl _) _, rfl⟩
  case round =>
    obtain ⟨i, a, c', vs, hi, ht8, ht7, hown, hcf, hb, hk⟩ := hrel
    subst ht8 ht7
    have Hk := Lib.hid hk; clear hk
    by_cases hlt : i ≤ rs.length
    · have hd : decide (i ≤ rs.length) = true := by simpa using hlt
      have hbo : Below wr.heap.size wr (wr.alloc (.cells (callCells runeC none 0) 34)) := (Below.refl _ _).alloc (Nat.le_refl _) _
      have ho4 := own_keep hown (Keep.ofBelow hbo (fun _ => False)) (fun _ _ h => h)
      have hr4 := call_reads wr runeC none 0
      have hsz : w1.heap.size ≤ (wr.alloc (.cells (callCells runeC none 0) 34)).heap.size := Nat.le_trans hb.size hbo.size
      have hrm : Room (i + 1) := by unfold Room; omega
      have H2 := Lib.hid (And.intro ho4 (And.intro hr4 (And.intro (call_one runeC none 0) (And.intro hrm (And.intro hsz (And.intro hbo (And.intro hown (And.intro hcf hb)))))))); clear ho4 hr4 hrm hsz hbo hown hcf hb
      go_wp2_with (at_builtin; refine wpList_append_any _ rfl (.tmp 26) (.tmp 28) _ rfl w1.heap.size 34 i0 _ 4 48 Tryd.underlying23 HI.out.1 HI.out.2.1 HI.out.2.2.1 HI.out.2.2.2 rfl (by omega) (.slice a i c') i vs rfl H2.out.1 _ _ 1 1 (callCells runeC none 0).toList rfl H2.out.2.1 H2.out.2.2.1 H2.out.2.2.2.1.len (H2.out.2.2.2.1.bytes 48 (by omega)) H2.out.2.2.2.2.1 ?_; intro v4 w4 hown4 hg4 hat4; obtain ⟨b4, k4, hv4⟩ := own_slice hown4; subst hv4; have H4 := Lib.hid (And.intro hown4 hg4); clear hown4 hg4 hat4)
      go_roundg (rs.length + 1 - (i + 1))
      case measure => have := Hk.out; omega
      case rel =>
        obtain ⟨hown4, hg4⟩ := H4.out
        obtain ⟨_, _, _, _, _, hbo, hown, hcf, hb⟩ := H2.out
        have hb4 : Below w1.heap.size w1 w4 := grown_below hb hbo hown hg4 (Nat.le_refl _)
        have hbr : Below w1.heap.size wr w4 := (hbo.mono hb.size).grown hg4 (Nat.le_trans hb.size hbo.size) (fun k hk => (hown.lt k hk).1)
        refine ⟨i + 1, b4, k4, vs ++ (callCells runeC none 0).toList, by omega, ?_, rfl, hown4, ?_, hb4, rfl⟩
        · refine congrArg (Value.int .i64) ?_
          first | rfl | omega | (rw [IntWalk.wrap64_in _ (by omega)]; rfl)
        · rw [List.replicate_succ']
          exact (hcf.below hbr).append (CallsFlat.one (by simp [runeC]) Reads.none_)
    · have hd : decide (i ≤ rs.length) = false := by simpa using hlt
      have hia : i = rs.length + 1 := by omega
      subst hia
      have hbw := below2 H1.out.2.2.1 hb
      have hcalls : CallsAt wr wr.heap.size a (List.replicate (rs.length + 1) runeC) := calls_own (by simp) hown hcf hb.size
      have hrun := run23 E n hn A c ps a c' (List.replicate (rs.length + 1) runeC) wr ((HE.out.1.below hbw).more hbw.size) (tabs_keep HE.out.2.1 (Keep.ofBelow hbw (fun _ => False)) (fun _ h => h.elim) HE.out.1.five) ((HE.out.2.2.1.below hbw).more hbw.size) hcalls HE.out.2.2.2.1 HE.out.2.2.2.2 (by rw [runeCalls_bytes]; unfold Room; omega)
      have hosr : (runM (newReader (rsize n) ps) ⟨zeros (wsize n), 0, []⟩ (List.replicate (rs.length + 1) runeC)).2.2 = rs.map runeOut ++ [endOut] := by
        rw [H1.out.2.2.2.2, Hall.out]
        exact runes_runM n hn ps _
      rw [hosr, List.length_replicate] at hrun
      generalize (runM (newReader (rsize n) ps) ⟨zeros (wsize n), 0, []⟩ (List.replicate (rs.length + 1) runeC)).2.1.got = got at hrun
      have ho1 := own_keep H1.out.1 (Keep.ofBelow hb (fun _ => False)) (fun _ _ h => h)
      have ho2 := own_keep H1.out.2.1 (Keep.ofBelow hb (fun _ => False)) (fun _ _ h => h)
      obtain ⟨os, hos⟩ : ∃ os, os = rs.map runeOut ++ [endOut] := ⟨_, rfl⟩
      have hol : os.length = rs.length + 1 := by rw [hos]; simp
      rw [← hos] at hrun
      have H3 := Lib.hid (And.intro hbw (And.intro hrun (And.intro ho1 (And.intro ho2 (And.intro hol hos))))); clear hbw hcalls hrun ho1 ho2 hol hos hosr hown hcf hb
      go_wp2_with fail
      refine H3.out.2.1.mono ?_
      rintro e w3 ⟨a4, k4, gv, flat4, rfl, hown4, houts4, hgv, hb4⟩
      have hO := outs_b rfl hown4 houts4
      obtain ⟨ag, cg, rfl⟩ := own_slice hgv
      have ho1 := Reads.of_own (own_keep H3.out.2.2.1 (Keep.ofBelow hb4 (fun _ => False)) (fun _ _ h => h))
      have ho2 := Reads.of_own (own_keep H3.out.2.2.2.1 (Keep.ofBelow hb4 (fun _ => False)) (fun _ _ h => h))
      have hbw3 := below2 H3.out.1 hb4
      have hol := H3.out.2.2.2.2.1
      rw [hol]
      have H4 := Lib.hid (And.intro hO (And.intro ho1 (And.intro ho2 hbw3))); clear hown4 houts4 hgv hb4 hO ho1 ho2 hbw3 hol
      go_wp2_with fail
      go_loopg [39] rs.length (fun k t39 wr => ∃ j q, j ≤ rs.length ∧ t39 = .int .i64 ((j : Nat) : Int) ∧ wr = w3.drewN q ∧ k = rs.length - j)
      case atStart => exact ⟨0, 0, Nat.zero_le _, rfl, rfl, rfl⟩
      case round =>
        obtain ⟨j, q, hj, ht39, hwr, hk⟩ := hrel
        subst ht39 hwr
        have Hk2 := Lib.hid hk; clear hk
        by_cases hlt2 : j < rs.length
        · have hd2 : decide (j < rs.length) = true := by simpa using hlt2
          have hjo : j < os.length := by rw [H3.out.2.2.2.2.1]; omega
          have hoj : os[j] = runeOut rs[j] := by
            have h1 := H3.out.2.2.2.2.2
            have h2 : os[j]? = some (runeOut rs[j]) := by rw [h1, List.getElem?_append_left (by simpa using hlt2), List.getElem?_map, List.getElem?_eq_getElem hlt2]; rfl
            rw [List.getElem?_eq_getElem hjo] at h2
            injection h2
          obtain ⟨ad, A', c5, e1, hadB, x0, x1, x2, xr⟩ := H4.out.1.at_ hjo
          obtain ⟨ad1, u1, f1, _, hu1, y1⟩ := H4.out.2.1.at_ hlt2
          obtain ⟨ad2, u2, f2, _, hu2, y2⟩ := H4.out.2.2.1.at_ hlt2
          rw [nvs_get, List.getElem?_map, List.getElem?_eq_getElem hlt2] at hu1 hu2
          simp only [Option.map_some, Option.some.injEq] at hu1 hu2
          rw [hoj] at x0 x1 x2
          clear hoj xr
          generalize rs[j] = r at *
          obtain ⟨rn, sz⟩ := r
          simp only [runeOut, List.length_replicate, nv] at x0 x1 x2 hu1 hu2
          subst hu1 hu2 e1 f1 f2
          have hj3 : decide (j < rs.length + 1) = true := by simp; omega
          have hj4 : (j : Int) < (rs.length : Int) + 1 := by omega
          go_wp2_with fail
          go_quiet (fail)
          go_wp2_with fail
          go_roundg (rs.length - (j + 1))
          case measure => have := Hk2.out; omega
          case rel =>
            refine ⟨j + 1, q + nq, hlt2, ?_, rfl, rfl⟩
            refine congrArg (Value.int .i64) ?_
            first | rfl | omega | (rw [IntWalk.wrap64_in _ (by omega)]; rfl)
        · have hd2 : decide (j < rs.length) = false := by simpa using hlt2
          have hjo : rs.length < os.length := by rw [H3.out.2.2.2.2.1]; omega
          have hoj : os[rs.length] = endOut := by
            have h1 := H3.out.2.2.2.2.2
            have h2 : os[rs.length]? = some endOut := by rw [h1, List.getElem?_append_right (by simp)]; simp
            rw [List.getElem?_eq_getElem hjo] at h2
            injection h2
          obtain ⟨ad, A', c5, e1, hadB, x0, x1, x2, xr⟩ := H4.out.1.at_ hjo
          rw [hoj] at x0 x1 x2
          simp only [endOut] at x0 x1 x2
          clear hoj xr x0 x1
          subst e1
          have hj4 : (rs.length : Int) < (rs.length : Int) + 1 := by omega
          go_wp2_with fail
          go_ret
          exact ⟨rfl, below_drewN H4.out.2.2.2 _⟩
end Go.Proofs.YtancmlapnhccdaaDoor
