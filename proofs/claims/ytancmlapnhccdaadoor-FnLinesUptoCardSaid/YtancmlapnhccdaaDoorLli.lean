/- laws.FnLines: the walk. -/
import Derived.Test.YtancmlapnhccdaaDoorObs
namespace Go.Proofs.YtancmlapnhccdaaDoor
open Go.RowKit

def lineC (d : UInt8) (j : Nat) : CallD := ⟨6 + ((j % 2 : Nat) : Int), 0, d, []⟩
def lineCalls (d : UInt8) (n : Nat) : List CallD := (List.range n).map (lineC d)
theorem lineCalls_succ (d : UInt8) (n : Nat) : lineCalls d (n + 1) = lineCalls d n ++ [lineC d n] := by unfold lineCalls; rw [List.range_succ, List.map_append]; rfl
theorem lineCalls_len (d : UInt8) (n : Nat) : (lineCalls d n).length = n := by simp [lineCalls]
theorem lineCalls_bytes (d : UInt8) (n : Nat) : callsLen (lineCalls d n) = 4 * n := by
  induction n with
  | zero => rfl
  | succ n ih => rw [lineCalls_succ, callsLen_append, ih]; simp [callsLen, lineC]; omega
theorem lineCalls_is (d : UInt8) (n : Nat) : ∀ c ∈ lineCalls d n, isLine d c ∧ isRd c := by
  intro c hc
  obtain ⟨j, _, rfl⟩ := List.mem_map.1 hc
  refine ⟨⟨?_, rfl⟩, ?_⟩
  · show 6 + ((j % 2 : Nat) : Int) = 6 ∨ 6 + ((j % 2 : Nat) : Int) = 7
    omega
  · show 0 ≤ 6 + ((j % 2 : Nat) : Int) ∧ 6 + ((j % 2 : Nat) : Int) ≤ 7
    omega
theorem lines_runM (n : Nat) (hn : n ≤ 255) (ps : List (List UInt8)) (t : WS) (d : UInt8) (m : Nat) : (runM (newReader (rsize n) ps) t (lineCalls d m)).2.2 = linesN d m ps.flatten := by
  have h := lines_run d (lineCalls d m) (sr0 ps.flatten) (fun c hc => (lineCalls_is d m c hc).1)
  have := run_agree (lineCalls d m) (sr0 ps.flatten) (newReader (rsize n) ps) t (agree_new n hn ps) (fun c hc => (lineCalls_is d m c hc).2) (by rw [h])
  rw [this, h, lineCalls_len]
  rfl
/-- the bytes of answers, in order -/
def bytesOf (os : List OutD) : List UInt8 := (os.map (·.bytes)).flatten
theorem bytesOf_take (os : List OutD) (i : Nat) (h : i < os.length) : bytesOf (os.take (i + 1)) = bytesOf (os.take i) ++ os[i].bytes := by
  unfold bytesOf
  rw [List.take_add_one, List.getElem?_eq_getElem h, List.map_append, List.flatten_append]
  simp
theorem bytesOf_le (os : List OutD) (i : Nat) : (bytesOf (os.take i)).length ≤ (bytesOf os).length := by
  have h := congrArg (fun l => (bytesOf l).length) (List.take_append_drop i os)
  unfold bytesOf at *
  simp only [List.map_append, List.flatten_append, List.length_append] at h
  omega

def Li1 (d : UInt8) (all : List UInt8) (w1 : World) (k : Nat) (t8 t9 : Value) (wr : World) : Prop :=
  ∃ i a c vs, i ≤ all.length + 1 ∧ t9 = .int .i64 ((i : Nat) : Int) ∧ t8 = .slice a i c ∧ wr.ownsRow w1.heap.size 34 4 (.slice a i c) i vs ∧ CallsFlat wr w1.heap.size vs (lineCalls d i) ∧ Below w1.heap.size w1 wr ∧ k = all.length + 1 - i
def Li2 (os : List OutD) (w3 : World) (k : Nat) (t12 t43 : Value) (wr : World) : Prop :=
  ∃ i a c, i ≤ os.length ∧ t43 = .int .i64 ((i : Nat) : Int) ∧ t12 = .slice a (bytesOf (os.take i)).length c ∧ wr.ownsRow w3.heap.size 5 1 (.slice a (bytesOf (os.take i)).length c) (bytesOf (os.take i)).length (bvs (bytesOf (os.take i))) ∧ Below w3.heap.size w3 wr ∧ k = os.length - i

theorem last_at {l : List UInt8} {x : UInt8} (h : l.getLast? = some x) : ∃ h0 : 0 < l.length, l[l.length - 1] = x := by
  rcases l with _ | ⟨a, l⟩
  · simp at h
  · refine ⟨by simp, ?_⟩
    rw [List.getLast?_eq_getElem?, List.getElem?_eq_getElem (by simp)] at h
    injection h

set_option maxRecDepth 100000 in
set_option maxHeartbeats 4000000 in
theorem law11 (E : Nat → Addr) (n : Nat) (hn : n ≤ 255) (A : Option Addr) (c : Nat) (ps : List (List UInt8)) (dn : Nat) (hdn : dn ≤ 255) (w : World) (hE : Env w w.heap.size E) (ht : Lib.Utf8Tabs 9 10 w) (hp : PiecesAt w w.heap.size A ps) (hroom : Room (100 * ps.flatten.length + 255)) (hl : Room ps.length) :
    Calls Tryd.prog 11 #[.int .u8 (n : Nat), .slice A ps.length c, .int .u8 (dn : Nat)] w (LawTrue w) := by
  obtain ⟨d, hd⟩ : ∃ d : UInt8, d.toNat = dn := ⟨UInt8.ofNat dn, by rw [UInt8.toNat_ofNat']; omega⟩
  subst hd
  obtain ⟨j0, hj0, hy0, hy1, hy2⟩ := info_parts Tryd.info5
  have HJ := Lib.hid (And.intro hj0 (And.intro hy0 (And.intro hy1 hy2))); clear hj0 hy0 hy1 hy2
  obtain ⟨i0, hi0, hz0, hz1, hz2⟩ := info_parts Tryd.info34
  have HI := Lib.hid (And.intro hi0 (And.intro hz0 (And.intro hz1 hz2))); clear hi0 hz0 hz1 hz2
  obtain ⟨all, hall⟩ : ∃ all, all = ps.flatten := ⟨_, rfl⟩
  have hab : 100 * all.length + 255 ≤ 1000000000 := by rw [hall]; exact hroom
  have hroom2 : Room (ps.flatten.length + 255) := hroom.mono (by omega)
  have Hall := Lib.hid hall; clear hall
  have HE := Lib.hid (And.intro hE (And.intro ht (And.intro hp (And.intro hroom2 hl)))); clear hE hp hroom hl ht hroom2
  go_enter Tryd.func11, Tryd.ntmps11
  go_wp2_with fail
  refine (joined22 A c ps w HE.out.2.2.1 (HE.out.2.2.2.1.mono (by omega)) HE.out.2.2.2.2).mono ?_
  rintro e w1 ⟨v1, rfl, hown1, hb1⟩
  rw [← Hall.out] at hown1
  obtain ⟨a1, c1, rfl⟩ := own_slice hown1
  have hown0 : (w1.alloc (.cells #[] 34)).ownsRow w1.heap.size 34 4 (.slice (some ⟨w1.heap.size, 0, none⟩) 0 0) 0 [] := World.ownsRow_made w1 #[] 0 (Nat.le_refl _) (by simp [maxLen]) (by simp)
  have H1 := Lib.hid (And.intro hown1 (And.intro hb1 hown0)); clear hown1 hb1 hown0
  go_wp2_with fail
  go_loopg [8, 9] (all.length + 1) (fun k t8 t9 wr => Li1 d all w1 k t8 t9 wr)
  case atStart => exact ⟨0, _, _, [], Nat.zero_le _, rfl, rfl, H1.out.2.2, CallsFlat.nil, (Below.refl _ _).alloc (Nat.le_refl _) _, rfl⟩
  case round =>
    obtain ⟨i, a, c', vs, hi, ht9, ht8, hown, hcf, hb, hk⟩ := hrel
    subst ht9 ht8
    have Hk := Lib.hid hk; clear hk
    by_cases hlt : i ≤ all.length
    · have hd : decide (i ≤ all.length) = true := by simpa using hlt
      have hx : callCells (lineC d i) none 0 = #[.int .i64 (6 + ((i % 2 : Nat) : Int)), .int .i64 0, .int .u8 (d.toNat : Int), .slice none 0 0] := rfl
      have hbo : Below wr.heap.size wr (wr.alloc (.cells (callCells (lineC d i) none 0) 34)) := (Below.refl _ _).alloc (Nat.le_refl _) _
      have ho4 := own_keep hown (Keep.ofBelow hbo (fun _ => False)) (fun _ _ h => h)
      have hr4 := call_reads wr (lineC d i) none 0
      have hsz : w1.heap.size ≤ (wr.alloc (.cells (callCells (lineC d i) none 0) 34)).heap.size := Nat.le_trans hb.size hbo.size
      have hrm : Room (i + 1) := by unfold Room; omega
      have H2 := Lib.hid (And.intro ho4 (And.intro hr4 (And.intro (call_one (lineC d i) none 0) (And.intro hrm (And.intro hsz (And.intro hbo (And.intro hown (And.intro hcf hb)))))))); clear ho4 hr4 hrm hsz hbo hown hcf hb
      rw [hx] at H2
      have hm1 : ((i : Int)).tmod 2 = ((i % 2 : Nat) : Int) := by rw [Int.tmod_eq_emod_of_nonneg (by omega)]; omega
      have hm2 : (i % 2 : Nat) ≤ 1 := by omega
      have hm3 : (i : Int) % 2 = ((i % 2 : Nat) : Int) := by omega
      generalize hmm : (i % 2 : Nat) = m2 at *
      have Hmm := Lib.hid hmm; clear hmm hx
      go_wp2_with (at_builtin; refine wpList_append_any _ rfl (.tmp 25) (.tmp 31) _ rfl w1.heap.size 34 i0 _ 4 48 Tryd.underlying23 HI.out.1 HI.out.2.1 HI.out.2.2.1 HI.out.2.2.2 rfl (by omega) (.slice a i c') i vs rfl H2.out.1 _ _ 1 1 _ rfl H2.out.2.1 H2.out.2.2.1 H2.out.2.2.2.1.len (H2.out.2.2.2.1.bytes 48 (by omega)) H2.out.2.2.2.2.1 ?_; intro v4 w4 hown4 hg4 hat4; obtain ⟨b4, k4, hv4⟩ := own_slice hown4; subst hv4; have H4 := Lib.hid (And.intro hown4 hg4); clear hown4 hg4 hat4)
      go_roundg (all.length + 1 - (i + 1))
      case measure => have := Hk.out; omega
      case rel =>
        obtain ⟨hown4, hg4⟩ := H4.out
        obtain ⟨_, _, _, _, _, hbo, hown, hcf, hb⟩ := H2.out
        have hb4 : Below w1.heap.size w1 w4 := grown_below hb hbo hown hg4 (Nat.le_refl _)
        have hbr : Below w1.heap.size wr w4 := (hbo.mono hb.size).grown hg4 (Nat.le_trans hb.size hbo.size) (fun k hk => (hown.lt k hk).1)
        have e : [Value.int .i64 (6 + ((m2 : Nat) : Int)), .int .i64 0, .int .u8 (d.toNat : Int), .slice none 0 0] = (callCells (lineC d i) none 0).toList := by rw [← Hmm.out]; rfl
        rw [e] at hown4
        refine ⟨i + 1, b4, k4, vs ++ (callCells (lineC d i) none 0).toList, by omega, ?_, rfl, hown4, ?_, hb4, rfl⟩
        · refine congrArg (Value.int .i64) ?_
          first | rfl | omega | (rw [IntWalk.wrap64_in _ (by omega)]; rfl)
        · rw [lineCalls_succ]
          exact (hcf.below hbr).append (CallsFlat.one (by simp [lineC]) Reads.none_)
    · have hd : decide (i ≤ all.length) = false := by simpa using hlt
      have hia : i = all.length + 1 := by omega
      subst hia
      have hbw := below2 H1.out.2.1 hb
      have hcalls : CallsAt wr wr.heap.size a (lineCalls d (all.length + 1)) := calls_own (lineCalls_len d _).symm hown hcf hb.size
      have hrun := run23 E n hn A c ps a c' (lineCalls d (all.length + 1)) wr ((HE.out.1.below hbw).more hbw.size) (tabs_keep HE.out.2.1 (Keep.ofBelow hbw (fun _ => False)) (fun _ h => h.elim) HE.out.1.five) ((HE.out.2.2.1.below hbw).more hbw.size) hcalls HE.out.2.2.2.1 HE.out.2.2.2.2 (by rw [lineCalls_bytes]; unfold Room; omega)
      rw [lines_runM n hn, ← Hall.out, lineCalls_len] at hrun
      generalize (runM (newReader (rsize n) ps) ⟨zeros (wsize n), 0, []⟩ (lineCalls d (all.length + 1))).2.1.got = got at hrun
      have hown1 := own_keep H1.out.1 (Keep.ofBelow hb (fun _ => False)) (fun _ _ h => h)
      obtain ⟨os, hos⟩ : ∃ os, os = linesN d (all.length + 1) all := ⟨_, rfl⟩
      have hol : os.length = all.length + 1 := by rw [hos, lines_len]
      have hok : ∀ o ∈ os, lineOk d o := by rw [hos]; exact lines_ok d _ all
      have hby : bytesOf os = all := by rw [hos]; exact lines_all d _ all (by omega)
      rw [← hos] at hrun
      have H3 := Lib.hid (And.intro hbw (And.intro hrun (And.intro hown1 (And.intro hol (And.intro hok hby))))); clear hbw hcalls hrun hown1 hos hol hok hby hown hcf hb
      have hcl : all.length + 1 ≤ 1000000000 := by omega
      go_wp2_with fail
      refine H3.out.2.1.mono ?_
      rintro e w3 ⟨a4, k4, gv, flat4, rfl, hown4, houts4, hgv, hb4⟩
      have hO := outs_b rfl hown4 houts4
      obtain ⟨ag, cg, rfl⟩ := own_slice hgv
      have hown13 := own_keep H3.out.2.2.1 (Keep.ofBelow hb4 (fun _ => False)) (fun _ _ h => h)
      have hbw3 := below2 H3.out.1 hb4
      have hown0 : (w3.alloc (.cells #[] 5)).ownsRow w3.heap.size 5 1 (.slice (some ⟨w3.heap.size, 0, none⟩) 0 0) 0 [] := World.ownsRow_made w3 #[] 0 (Nat.le_refl _) (by simp [maxLen]) (by simp)
      have H4 := Lib.hid (And.intro hO (And.intro hown13 (And.intro hbw3 hown0))); clear hown4 houts4 hgv hb4 hO hown13 hbw3 hown0
      go_wp2_with fail
      go_loopg [12, 43] os.length (fun k t12 t43 wr => Li2 os w3 k t12 t43 wr)
      case atStart => exact ⟨0, _, _, Nat.zero_le _, rfl, rfl, H4.out.2.2.2, (Below.refl _ _).alloc (Nat.le_refl _) _, rfl⟩
      case round =>
        obtain ⟨j, b, cb, hj, ht43, ht12, hown, hb, hk⟩ := hrel
        subst ht43 ht12
        have Hk2 := Lib.hid hk; clear hk
        have hjl : j ≤ 1000000000 := by have := H3.out.2.2.2.1; omega
        by_cases hlt2 : j < os.length
        · have hd2 : decide (j < os.length) = true := by simpa using hlt2
          obtain ⟨ad, A', c5, e1, hadB, x0, x1, x2, xr⟩ := (H4.out.1.below hb).at_ hlt2
          have hst := bytesOf_take os j hlt2
          have hle := bytesOf_le os (j + 1)
          rw [hst, List.length_append, H3.out.2.2.2.2.2] at hle
          have hok := H3.out.2.2.2.2.1 os[j] (List.getElem_mem hlt2)
          generalize os[j] = o at *
          generalize bytesOf (os.take j) = q at *
          obtain ⟨ob, on, oe⟩ := o
          simp only at x0 x1 x2 xr hst hle hok
          have Hst := Lib.hid hst; clear hst
          have hxx : (oe = 0 ∧ ∃ h0 : 0 < ob.length, ob[ob.length - 1] = d) ∨ (oe = 1 ∧ ob = []) ∨ (oe = 1 ∧ ∃ h0 : 0 < ob.length, ob[ob.length - 1] ≠ d) := by
            rcases hok with ⟨h1, h2⟩ | ⟨h1, h2⟩
            · exact .inl ⟨h1, last_at h2⟩
            · rcases ob with _ | ⟨x, ob⟩
              · exact .inr (.inl ⟨h1, rfl⟩)
              · refine .inr (.inr ⟨h1, by simp, fun e => h2 ?_⟩)
                rw [List.getLast?_eq_getElem?, List.getElem?_eq_getElem (by simp), e]
          clear hok
          subst e1
          rcases hxx with ⟨rfl, h0, hlast⟩ | ⟨rfl, rfl⟩ | ⟨rfl, h0, hlast⟩
          · have hbo : Below wr.heap.size wr (wr.alloc (.cells #[.slice A' ob.length c5, .int .i64 on, .int .i64 0] 36)) := (Below.refl _ _).alloc (Nat.le_refl _) _
            have ho4 := own_keep hown (Keep.ofBelow hbo (fun _ => False)) (fun _ _ h => h)
            have hr4 := xr.below (hbo.mono hb.size)
            have hsz : w3.heap.size ≤ (wr.alloc (.cells #[.slice A' ob.length c5, .int .i64 on, .int .i64 0] 36)).heap.size := Nat.le_trans hb.size hbo.size
            have hrm : Room (q.length + ob.length) := by unfold Room; omega
            have H5 := Lib.hid (And.intro ho4 (And.intro hr4 (And.intro hrm (And.intro hsz (And.intro hbo (And.intro hb (And.intro hown xr))))))); clear ho4 hr4 hrm hsz hbo hb hown xr
            have g0 : decide (0 < ob.length) = true := by simpa using h0
            have hwr : IntKind.i64.wrap ((ob.length : Int) - 1) = ((ob.length - 1 : Nat) : Int) := by rw [IntWalk.i64_in _ (by omega)]; omega
            simp only [Int.natCast_zero] at x2
            have Hlast := Lib.hid hlast; clear hlast
            go_wp2_with (at_builtin; refine wpList_append_any _ rfl (.tmp 49) (.tmp 50) _ rfl w3.heap.size 5 j0 _ 1 1 Tryd.underlying25 HJ.out.1 HJ.out.2.1 HJ.out.2.2.1 HJ.out.2.2.2 rfl (by omega) (.slice b q.length cb) q.length (bvs q) rfl H5.out.1 w3.heap.size A' ob.length c5 (bvs ob) rfl H5.out.2.1 (bvs_one _) H5.out.2.2.1.len (H5.out.2.2.1.bytes 1 (by omega)) H5.out.2.2.2.1 ?_; intro v6 w6 hown6 hg6 hat6; obtain ⟨b6, k6, hv6⟩ := own_slice hown6; subst hv6; have hb6 := grown_below H5.out.2.2.2.2.2.1 H5.out.2.2.2.2.1 H5.out.2.2.2.2.2.2.1 hg6 (Nat.le_refl _); have hk6 : Keep (fun k => (Value.slice b q.length cb).ownBlock = some k) (wr.alloc (.cells #[.slice A' ob.length c5, .int .i64 on, .int .i64 0] 36)) w6 := (Keep.refl _ _).grown hg6 (fun k hk => .inl hk); have hblk : Blk w6 wr.heap.size 36 #[.slice A' ob.length c5, .int .i64 on, .int .i64 0] := (Blk.new wr 36 _).keep hk6 (fun e => (by have := (H5.out.2.2.2.2.2.2.1.lt _ e).2; omega)); have y2 : w6.cell? ⟨wr.heap.size, 2, none⟩ = some (.int .i64 0) := hblk.cell 2; have xr6 := H5.out.2.2.2.2.2.2.2.below (Below.trans (H5.out.2.2.2.2.1.mono H5.out.2.2.2.2.2.1.size) (Below.refl _ _ |>.grown hg6 (Nat.le_trans H5.out.2.2.2.2.2.1.size H5.out.2.2.2.2.1.size) (fun k hk => (H5.out.2.2.2.2.2.2.1.lt k hk).1))); have H6 := Lib.hid (And.intro hown6 (And.intro hb6 xr6)); clear hown6 hg6 hat6 hb6 hk6 hblk xr6)
            obtain ⟨ad6, e6, _, hc6⟩ := H6.out.2.2.2 h0
            subst e6
            have y3 : w6.cell? (ad6.add (ob.length - 1)) = some (.int .u8 (d.toNat : Int)) := hc6 _ _ (by rw [bvs_get, List.getElem?_eq_getElem (by omega), Hlast.out]; rfl)
            have hi3 : ((ob.length - 1 : Nat) : Int) < (ob.length : Int) := by omega
            clear hc6
            go_wp2_with fail
            go_quiet (fail)
            go_wp2_with fail
            go_roundg (os.length - (j + 1))
            case measure => have := Hk2.out; omega
            case rel =>
              obtain ⟨hown6, hb6, _⟩ := H6.out
              refine ⟨j + 1, b6, k6, hlt2, ?_, ?_, ?_, below_drewN hb6 _, rfl⟩
              · refine congrArg (Value.int .i64) ?_
                first | rfl | omega | (rw [IntWalk.wrap64_in _ (by omega)]; rfl)
              · rw [Hst.out, List.length_append]
              · rw [Hst.out, List.length_append, bvs_append]; exact own_keep hown6 ((Keep.refl (fun _ => False) _).drewN _) (fun _ _ h => h)
          · have hbo : Below wr.heap.size wr (wr.alloc (.cells #[.slice A' 0 c5, .int .i64 on, .int .i64 1] 36)) := (Below.refl _ _).alloc (Nat.le_refl _) _
            have ho4 := own_keep hown (Keep.ofBelow hbo (fun _ => False)) (fun _ _ h => h)
            have hr4 := xr.below (hbo.mono hb.size)
            have hsz : w3.heap.size ≤ (wr.alloc (.cells #[.slice A' 0 c5, .int .i64 on, .int .i64 1] 36)).heap.size := Nat.le_trans hb.size hbo.size
            have hrm : Room (q.length + 0) := by unfold Room; omega
            have H5 := Lib.hid (And.intro ho4 (And.intro hr4 (And.intro hrm (And.intro hsz (And.intro hbo (And.intro hb (And.intro hown xr))))))); clear ho4 hr4 hrm hsz hbo hb hown xr
            simp only [List.length_nil] at x0
            go_wp2_with (at_builtin; refine wpList_append_any _ rfl (.tmp 49) (.tmp 50) _ rfl w3.heap.size 5 j0 _ 1 1 Tryd.underlying25 HJ.out.1 HJ.out.2.1 HJ.out.2.2.1 HJ.out.2.2.2 rfl (by omega) (.slice b q.length cb) q.length (bvs q) rfl H5.out.1 w3.heap.size A' 0 c5 (bvs []) rfl H5.out.2.1 (bvs_one _) H5.out.2.2.1.len (H5.out.2.2.1.bytes 1 (by omega)) H5.out.2.2.2.1 ?_; intro v6 w6 hown6 hg6 hat6; obtain ⟨b6, k6, hv6⟩ := own_slice hown6; subst hv6; have hb6 := grown_below H5.out.2.2.2.2.2.1 H5.out.2.2.2.2.1 H5.out.2.2.2.2.2.2.1 hg6 (Nat.le_refl _); have hk6 : Keep (fun k => (Value.slice b q.length cb).ownBlock = some k) (wr.alloc (.cells #[.slice A' 0 c5, .int .i64 on, .int .i64 1] 36)) w6 := (Keep.refl _ _).grown hg6 (fun k hk => .inl hk); have hblk : Blk w6 wr.heap.size 36 #[.slice A' 0 c5, .int .i64 on, .int .i64 1] := (Blk.new wr 36 _).keep hk6 (fun e => (by have := (H5.out.2.2.2.2.2.2.1.lt _ e).2; omega)); have y2 : w6.cell? ⟨wr.heap.size, 2, none⟩ = some (.int .i64 1) := hblk.cell 2; have xr6 := H5.out.2.2.2.2.2.2.2.below (Below.trans (H5.out.2.2.2.2.1.mono H5.out.2.2.2.2.2.1.size) (Below.refl _ _ |>.grown hg6 (Nat.le_trans H5.out.2.2.2.2.2.1.size H5.out.2.2.2.2.1.size) (fun k hk => (H5.out.2.2.2.2.2.2.1.lt k hk).1))); have H6 := Lib.hid (And.intro hown6 (And.intro hb6 xr6)); clear hown6 hg6 hat6 hb6 hk6 hblk xr6)
            go_wp2_with fail
            go_quiet (fail)
            go_wp2_with fail
            go_roundg (os.length - (j + 1))
            case measure => have := Hk2.out; omega
            case rel =>
              obtain ⟨hown6, hb6, _⟩ := H6.out
              refine ⟨j + 1, b6, k6, hlt2, ?_, ?_, ?_, below_drewN hb6 _, rfl⟩
              · refine congrArg (Value.int .i64) ?_
                first | rfl | omega | (rw [IntWalk.wrap64_in _ (by omega)]; rfl)
              · rw [Hst.out, List.length_append]; rfl
              · rw [Hst.out, List.length_append, bvs_append]; exact own_keep hown6 ((Keep.refl (fun _ => False) _).drewN _) (fun _ _ h => h)
          · have hbo : Below wr.heap.size wr (wr.alloc (.cells #[.slice A' ob.length c5, .int .i64 on, .int .i64 1] 36)) := (Below.refl _ _).alloc (Nat.le_refl _) _
            have ho4 := own_keep hown (Keep.ofBelow hbo (fun _ => False)) (fun _ _ h => h)
            have hr4 := xr.below (hbo.mono hb.size)
            have hsz : w3.heap.size ≤ (wr.alloc (.cells #[.slice A' ob.length c5, .int .i64 on, .int .i64 1] 36)).heap.size := Nat.le_trans hb.size hbo.size
            have hrm : Room (q.length + ob.length) := by unfold Room; omega
            have H5 := Lib.hid (And.intro ho4 (And.intro hr4 (And.intro hrm (And.intro hsz (And.intro hbo (And.intro hb (And.intro hown xr))))))); clear ho4 hr4 hrm hsz hbo hb hown xr
            have g0 : decide (0 < ob.length) = true := by simpa using h0
            have hwr : IntKind.i64.wrap ((ob.length : Int) - 1) = ((ob.length - 1 : Nat) : Int) := by rw [IntWalk.i64_in _ (by omega)]; omega
            have hne : (((ob[ob.length - 1]).toNat : Int) == (d.toNat : Int)) = false := by
              simp only [beq_eq_false_iff_ne, ne_eq]
              intro e
              exact hlast (UInt8.toNat_inj.1 (by omega))
            obtain ⟨z, hz⟩ : ∃ z, z = ob[ob.length - 1] := ⟨_, rfl⟩
            rw [← hz] at hne
            have Hz := Lib.hid hz; clear hlast hz
            go_wp2_with (at_builtin; refine wpList_append_any _ rfl (.tmp 49) (.tmp 50) _ rfl w3.heap.size 5 j0 _ 1 1 Tryd.underlying25 HJ.out.1 HJ.out.2.1 HJ.out.2.2.1 HJ.out.2.2.2 rfl (by omega) (.slice b q.length cb) q.length (bvs q) rfl H5.out.1 w3.heap.size A' ob.length c5 (bvs ob) rfl H5.out.2.1 (bvs_one _) H5.out.2.2.1.len (H5.out.2.2.1.bytes 1 (by omega)) H5.out.2.2.2.1 ?_; intro v6 w6 hown6 hg6 hat6; obtain ⟨b6, k6, hv6⟩ := own_slice hown6; subst hv6; have hb6 := grown_below H5.out.2.2.2.2.2.1 H5.out.2.2.2.2.1 H5.out.2.2.2.2.2.2.1 hg6 (Nat.le_refl _); have hk6 : Keep (fun k => (Value.slice b q.length cb).ownBlock = some k) (wr.alloc (.cells #[.slice A' ob.length c5, .int .i64 on, .int .i64 1] 36)) w6 := (Keep.refl _ _).grown hg6 (fun k hk => .inl hk); have hblk : Blk w6 wr.heap.size 36 #[.slice A' ob.length c5, .int .i64 on, .int .i64 1] := (Blk.new wr 36 _).keep hk6 (fun e => (by have := (H5.out.2.2.2.2.2.2.1.lt _ e).2; omega)); have y2 : w6.cell? ⟨wr.heap.size, 2, none⟩ = some (.int .i64 1) := hblk.cell 2; have xr6 := H5.out.2.2.2.2.2.2.2.below (Below.trans (H5.out.2.2.2.2.1.mono H5.out.2.2.2.2.2.1.size) (Below.refl _ _ |>.grown hg6 (Nat.le_trans H5.out.2.2.2.2.2.1.size H5.out.2.2.2.2.1.size) (fun k hk => (H5.out.2.2.2.2.2.2.1.lt k hk).1))); have H6 := Lib.hid (And.intro hown6 (And.intro hb6 xr6)); clear hown6 hg6 hat6 hb6 hk6 hblk xr6)
            obtain ⟨ad6, e6, _, hc6⟩ := H6.out.2.2.2 h0
            subst e6
            have y3 : w6.cell? (ad6.add (ob.length - 1)) = some (.int .u8 (z.toNat : Int)) := hc6 _ _ (by rw [bvs_get, List.getElem?_eq_getElem (by omega), ← Hz.out]; rfl)
            have hi3 : ((ob.length - 1 : Nat) : Int) < (ob.length : Int) := by omega
            clear hc6
            go_wp2_with fail
            go_quiet (fail)
            go_wp2_with fail
            go_roundg (os.length - (j + 1))
            case measure => have := Hk2.out; omega
            case rel =>
              obtain ⟨hown6, hb6, _⟩ := H6.out
              refine ⟨j + 1, b6, k6, hlt2, ?_, ?_, ?_, below_drewN hb6 _, rfl⟩
              · refine congrArg (Value.int .i64) ?_
                first | rfl | omega | (rw [IntWalk.wrap64_in _ (by omega)]; rfl)
              · rw [Hst.out, List.length_append]
              · rw [Hst.out, List.length_append, bvs_append]; exact own_keep hown6 ((Keep.refl (fun _ => False) _).drewN _) (fun _ _ h => h)
        · have hd2 : decide (j < os.length) = false := by simpa using hlt2
          have hta : os.take j = os := List.take_of_length_le (by omega)
          rw [hta, H3.out.2.2.2.2.2] at hown ⊢
          have hown15 := own_keep H4.out.2.1 (Keep.ofBelow hb (fun _ => False)) (fun _ _ h => h)
          have q1 := conv_str (c := cb) (Reads.of_own hown)
          have q2 := conv_str (c := c1) (Reads.of_own hown15)
          have hol := H3.out.2.2.2.1
          have H5 := Lib.hid hb; clear hown hb hta hown15
          rw [hol]
          generalize all.length = m at *
          go_wp2_with fail
          go_ret
          exact ⟨rfl, below2 H4.out.2.2.1 H5.out⟩
end Go.Proofs.YtancmlapnhccdaaDoor
