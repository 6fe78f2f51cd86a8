/- Joined by merge.py out of: Col, Rby. -/
import Derived.Test.YtancmlapnhccdaaDoorRdi
import Derived.Test.YtancmlapnhccdaaDoorRmm
import Derived.Test.YtancmlapnhccdaaDoorIwt

/- bytes.Clone; bufio.Reader: collectFragments. -/
namespace Go.Proofs.YtancmlapnhccdaaDoor
open Go.RowKit

theorem neq_same (a : Addr) (w : World) : (binOp .neq 68 (sent a) (sent a)).run Tryd.prog w = .ok (.bool false) w := by
  obtain ⟨i, hi, hc⟩ := Option.map_eq_some_iff.1 Tryd.info149
  obtain ⟨j, hj, _⟩ := Option.map_eq_some_iff.1 Tryd.info163
  have h := run_equalIn_iface_ptr_same w 9998 a Tryd.underlying68 Tryd.underlying149 hi hc hj
  simp only [binOp]
  simp [Op.equal, Op.maxDepth, h]
theorem neq_other {w : World} {B : Nat} {E : Nat → Addr} (h : Env w B E) (g g' : Nat) (hg : g ≤ 4) (hg' : g' ≤ 4) (hne : g ≠ g') : (binOp .neq 68 (sent (E g)) (sent (E g'))).run Tryd.prog w = .ok (.bool true) w := by
  obtain ⟨i, hi, hc⟩ := Option.map_eq_some_iff.1 Tryd.info149
  obtain ⟨j, hj, hz⟩ := Option.map_eq_some_iff.1 Tryd.info163
  obtain ⟨c, t, h1⟩ := h.row g hg
  obtain ⟨c', t', h2⟩ := h.row g' hg'
  have h := run_equalIn_iface_ptr_other w 9998 Tryd.underlying68 Tryd.underlying149 hi hc hj (by omega) (h.ne g g' hg hg' hne) h1 h2
  simp only [binOp]
  simp [Op.equal, Op.maxDepth, h]

/-- a new row with these bytes -/
def NewRow (xs : List UInt8) (w : World) (e : Ending) (w' : World) : Prop :=
  ∃ v, e = .returned v ∧ w'.ownsRow w.heap.size 5 1 v xs.length (bvs xs) ∧ Below w.heap.size w w'

set_option maxRecDepth 100000 in
set_option maxHeartbeats 1000000 in
theorem clone75 (B : Nat) (a : Addr) (c : Nat) (xs : List UInt8) (w : World) (h : Reads w B 1 (some a) xs.length (bvs xs)) (hB : B ≤ w.heap.size) (hroom : Room xs.length) :
    Calls Tryd.prog 75 #[.slice (some a) xs.length c] w (NewRow xs w) := by
  obtain ⟨i0, hi0, hz0, hz1, hz2⟩ := info_parts Tryd.info5
  have HI := Lib.hid (And.intro hi0 (And.intro hz0 (And.intro hz1 hz2))); clear hi0 hz0 hz1 hz2
  have hr1 : Reads (w.alloc (.cells #[] 5)) B 1 (some a) xs.length (bvs xs) := h.alloc hB _
  have hown : (w.alloc (.cells #[] 5)).ownsRow w.heap.size 5 1 (.slice (some ⟨w.heap.size, 0, none⟩) 0 0) 0 [] := World.ownsRow_made w #[] 0 (Nat.le_refl _) (by simp [maxLen]) (by simp)
  have hrm : Room (0 + xs.length) := by simpa using hroom
  have hb1 : w.heap.size ≤ (w.alloc (.cells #[] 5)).heap.size := by simp
  have HH := Lib.hid (And.intro hr1 (And.intro hown (And.intro (bvs_one xs) (And.intro hrm hb1)))); clear hr1 hown hrm hb1 hroom h
  have hq : ∀ w, (binOp .eql 25 (.slice (some a) xs.length c) (.slice none 0 0)).run Tryd.prog w = .ok (.bool false) w := fun w => Lib.run_eql_slice_nil w 25 5 (some a) xs.length c 0 0 Tryd.underlying25
  go_enter Tryd.func75, Tryd.ntmps75
  go_wp2_with (at_builtin; refine wpList_append_any _ rfl (.tmp 5) (.tmp 6) _ rfl w.heap.size 5 i0 _ 1 1 Tryd.underlying25 HI.out.1 HI.out.2.1 HI.out.2.2.1 HI.out.2.2.2 rfl (by omega) (.slice (some ⟨w.heap.size, 0, none⟩) 0 0) 0 [] rfl HH.out.2.1 B (some a) xs.length c (bvs xs) rfl HH.out.1 HH.out.2.2.1 HH.out.2.2.2.1.len (HH.out.2.2.2.1.bytes 1 (by omega)) HH.out.2.2.2.2 ?_; intro v1 w1 hown1 hg1 hat1; obtain ⟨a1, k1, hv1⟩ := own_slice hown1; subst hv1; have H1 := Lib.hid (And.intro hown1 (And.intro hg1 hat1)); clear hown1 hg1 hat1)
  go_ret
  obtain ⟨hown1, hg1, hat1⟩ := H1.out
  simp only [Nat.zero_add, List.nil_append] at hown1
  exact ⟨_, by rw [← Nat.zero_add xs.length]; rfl, hown1, ((Below.refl _ _).alloc (Nat.le_refl _) _).grown hg1 (by simp) (fun k hk => by simp [Value.ownBlock] at hk; omega)⟩

/-- rows of bytes of the call's own -/
def Frags (w : World) (N : Nat) (full : List (List UInt8)) (vs : List Value) : Prop :=
  vs.length = full.length ∧ ∀ (j : Nat) (p : List UInt8), full[j]? = some p → ∃ v, vs[j]? = some v ∧ w.ownsRow N 5 1 v p.length (bvs p) ∧ p ≠ []
theorem Frags.keep {X : Nat → Prop} {w w' : World} {N : Nat} {full : List (List UInt8)} {vs : List Value} (h : Frags w N full vs) (hk : Keep X w w') (hX : ∀ k, N ≤ k → ¬ X k) : Frags w' N full vs := by
  refine ⟨h.1, fun j p hj => ?_⟩
  obtain ⟨v, hv, ho, hne⟩ := h.2 j p hj
  exact ⟨v, hv, own_keep ho hk (fun k hk => hX k (ho.lt k hk).1), hne⟩
theorem own_apart {w : World} {N N' n m : Nat} {s s' : Nat} {e e' : TypeId} {v v' : Value} {xs ys : List Value} (h : w.ownsRow N e s v n xs) (h' : w.ownsRow N' e' s' v' m ys) (hne : e ≠ e') : ∀ k, v.ownBlock = some k → v'.ownBlock ≠ some k := by
  intro k hk hk'
  rcases h.2 with ⟨rfl, _⟩ | ⟨g, cap, cur, rfl, _, hg, _⟩
  · simp [Value.ownBlock] at hk
  · obtain rfl : g = k := by simpa [Value.ownBlock] using hk
    exact own_blk_ne h' (g := g) (t := e) (cs := cur) hg (fun e => hne e.symm) hk'
/-- the row of rows grows -/
theorem Frags.grown {w w' : World} {N M : Nat} {full : List (List UInt8)} {vs xs : List Value} {v : Value} {n : Nat} (h : Frags w N full vs) (hv : w.ownsRow M 25 1 v n xs) (hg : w.grownBy w' v.ownBlock) : Frags w' N full vs := by
  refine ⟨h.1, fun j p hj => ?_⟩
  obtain ⟨u, hu, ho, hne⟩ := h.2 j p hj
  refine ⟨u, hu, own_keep ho ((Keep.refl (fun k => v.ownBlock = some k) w).grown hg (fun k hk => .inl hk)) ?_, hne⟩
  intro k hk hk'
  exact own_apart ho hv (by decide) k hk hk'

/-- at the head of collectFragments' loop -/
def CollRel (E : Nat → Addr) (L : RL) (d : UInt8) (s0 : RS) (x : RS × List (List UInt8) × List UInt8 × Nat) (w : World) (k : Nat) (t4 t6 t7 : Value) (wr : World) : Prop :=
  ∃ s' full vs a4 c4, t4 = .slice a4 full.length c4 ∧ t6 = .int .i64 ((full.flatten.length : Nat) : Int) ∧ t7 = .nilIface ∧ RdrAt wr E L s' ∧ Keep (rdX L) w wr ∧ wr.ownsRow w.heap.size 25 1 (.slice a4 full.length c4) full.length vs ∧ Frags wr w.heap.size full vs ∧
    collF d k s' full = x ∧ (left s').length < k ∧ (s'.eof = true → s'.src.flatten = []) ∧ full.flatten ++ left s' = left s0 ∧ full.length ≤ full.flatten.length

/-- what collectFragments gives -/
def Coll68 (E : Nat → Addr) (L : RL) (x : RS × List (List UInt8) × List UInt8 × Nat) (w : World) (e : Ending) (w' : World) : Prop :=
  ∃ vs a4 c4 A c, e = .returned (.tuple #[.slice a4 x.2.1.length c4, .slice A x.2.2.1.length c, .int .i64 ((x.2.1.flatten.length + x.2.2.1.length : Nat) : Int), errV E x.2.2.2]) ∧ w'.ownsRow w.heap.size 25 1 (.slice a4 x.2.1.length c4) x.2.1.length vs ∧
    Frags w' w.heap.size x.2.1 vs ∧ Reads w' w'.heap.size 1 A x.2.2.1.length (bvs x.2.2.1) ∧ RdrAt w' E L x.1 ∧ Keep (rdX L) w w' ∧ x.2.1.length ≤ x.2.1.flatten.length ∧ ∃ ad, A = some ad ∧ ad.block < w'.heap.size

theorem res4 {fn : Func} {t u v x : Tmp} (h : fn.results = #[.tmp t, .tmp u, .tmp v, .tmp x]) (tmps : Array Value) (P : Program) (w : World) :
    (results fn tmps).run P w = .ok (.tuple #[tmps.getD t undef, tmps.getD u undef, tmps.getD v undef, tmps.getD x undef]) w := by simp [results, h]

theorem rdX_lt {w : World} {E : Nat → Addr} {L : RL} {s : RS} (h : RdrAt w E L s) : ∀ k, rdX L k → k < w.heap.size := by
  obtain ⟨A, c, o, row, q1, q2, _⟩ := h.src
  rintro k (rfl | rfl | rfl | rfl)
  · exact h.blk.lt
  · exact h.buf.lt
  · exact q1.lt
  · exact q2.lt

set_option maxRecDepth 100000 in
set_option maxHeartbeats 4000000 in
theorem collect68 (E : Nat → Addr) (L : RL) (s : RS) (d : UInt8) (w : World) (h : RdrAt w E L s) (heof : s.eof = true → s.src.flatten = []) (hroom : Room (left s).length) :
    Calls Tryd.prog 68 #[.pointer (some ⟨L.R, 0, none⟩), .int .u8 (d.toNat : Int)] w (Coll68 E L (collM d s) w) := by
  obtain ⟨i0, hi0, hz0, hz1, hz2⟩ := info_parts Tryd.info25
  have HI := Lib.hid (And.intro hi0 (And.intro hz0 (And.intro hz1 hz2))); clear hi0 hz0 hz1 hz2
  have hlt0 := rdX_lt h
  have H1 := Lib.hid (And.intro h (And.intro heof (And.intro hroom hlt0))); clear h heof hroom hlt0
  obtain ⟨x, hx⟩ : ∃ x, x = collM d s := ⟨_, rfl⟩
  rw [← hx]
  have Hx := Lib.hid hx; clear hx
  go_enter Tryd.func68, Tryd.ntmps68
  go_wp2_with fail
  go_loopg [4, 6, 7] (dmeas s) (fun k t4 t6 t7 wr => CollRel E L d s x w k t4 t6 t7 wr)
  case atStart => exact ⟨s, [], [], none, 0, rfl, rfl, rfl, H1.out.1, Keep.refl _ _, ⟨rfl, .inl ⟨rfl, rfl⟩⟩, ⟨rfl, fun j p hj => by simp at hj⟩, Hx.out.symm, by unfold dmeas; omega, H1.out.2.1, rfl, Nat.le_refl _⟩
  case round =>
    obtain ⟨s', full, vs, a4, c4, rfl, rfl, rfl, hr, hk, hown, hfr, hf, hlt, he, hsum, hfl⟩ := hrel
    obtain ⟨gk', rfl⟩ : ∃ k', gk = k' + 1 := ⟨gk - 1, by omega⟩
    have hsd := slice_done d s' hr.ok he
    have H := Lib.hid (And.intro hr (And.intro hk (And.intro hown (And.intro hfr (And.intro hf (And.intro hlt (And.intro he (And.intro hsum hfl)))))))); clear hr hk hown hfr hf hlt he hsum hfl
    have HD := Lib.hid hsd; clear hsd
    obtain ⟨tl, htl⟩ : ∃ tl, tl = full.flatten.length := ⟨_, rfl⟩
    obtain ⟨fl, hfl⟩ : ∃ fl, fl = full.length := ⟨_, rfl⟩
    rw [← htl, ← hfl]
    have Htl := Lib.hid (And.intro htl hfl); clear htl hfl
    go_wp2_with fail
    refine (readSlice74 E L s' d wr H.out.1).mono ?_
    rintro e w1 ⟨A, c, rfl, hrd, hr1, hk1, hsm⟩
    have hst : collF d (gk' + 1) s' full = if (sliceM d s').2.2 = 5 then collF d gk' (sliceM d s').1 (full ++ [(sliceM d s').2.1]) else ((sliceM d s').1, full, (sliceM d s').2.1, (sliceM d s').2.2) := rfl
    have hsum2 : full.flatten ++ ((sliceM d s').2.1 ++ left (sliceM d s').1) = left s := by rw [← HD.out.left]; exact H.out.2.2.2.2.2.2.2.1
    generalize sliceM d s' = y at *
    obtain ⟨t, line, err⟩ := y
    simp only at hrd hr1 hst hsum2 hsm ⊢
    have HSm := Lib.hid hsm; clear hsm
    have hb1 : tl + line.length ≤ 1000000000 := by
      have h1 := H1.out.2.2.1
      unfold Room at h1
      rw [← hsum2] at h1
      simp only [List.length_append] at h1
      have := Htl.out.1
      omega
    have hown1 := own_keep H.out.2.2.1 hk1 (fun k hk hx => by have := (H.out.2.2.1.lt k hk).1; have := H1.out.2.2.2 k hx; omega)
    have hfr1 := H.out.2.2.2.1.keep hk1 (fun k hk hx => by have := H1.out.2.2.2 k hx; omega)
    have e4 := hr1.env.at_ 4 (by omega)
    obtain ⟨ll, hll⟩ : ∃ ll, ll = line.length := ⟨_, rfl⟩
    have H2 := Lib.hid (And.intro hrd (And.intro hr1 (And.intro hk1 (And.intro hst (And.intro hown1 (And.intro hfr1 (And.intro hll hsum2))))))); clear hrd hst hown1 hfr1 hk1 hsum2
    rw [← hll] at hb1 ⊢
    clear hll
    rcases HD.out.what with ⟨h0, hm, hq⟩ | ⟨h0, hm, hz⟩ | ⟨h0, hm, hp, hrw, hef⟩
    · simp only at h0
      subst h0
      clear hr1
      rw [show errV E 0 = .nilIface from rfl]
      go_wp2_with fail
      refine bodyPost_ret (res4 rfl _ _ _) rfl ?_
      obtain ⟨hrd, hr1, hk1, hst, hown1, hfr1, hll, hsum2⟩ := H2.out
      have hx : x = (t, full, line, 0) := by rw [← H.out.2.2.2.2.1, hst, if_neg (by omega)]
      rw [hx]
      rw [Htl.out.2, hll]
      refine ⟨vs, a4, c4, A, c, ?_, hown1, hfr1, hrd, hr1, H.out.2.1.trans hk1, H.out.2.2.2.2.2.2.2.2, HSm.out (by simp)⟩
      rw [Htl.out.1]
      exact congrArg (fun z => Ending.returned (Value.tuple #[.slice a4 full.length c4, .slice A line.length c, Value.int .i64 z, .nilIface])) (show ((full.flatten.length : Nat) : Int) + ((line.length : Nat) : Int) = ((full.flatten.length + line.length : Nat) : Int) by omega)
    · simp only at h0
      subst h0
      have q := neq_other hr1.env 0 4 (by omega) (by omega) (by omega)
      clear hr1
      rw [show errV E 1 = sent (E 0) from rfl]
      go_wp2_with fail
      refine bodyPost_ret (res4 rfl _ _ _) rfl ?_
      obtain ⟨hrd, hr1, hk1, hst, hown1, hfr1, hll, hsum2⟩ := H2.out
      have hx : x = (t, full, line, 1) := by rw [← H.out.2.2.2.2.1, hst, if_neg (by omega)]
      rw [hx]
      rw [Htl.out.2, hll]
      refine ⟨vs, a4, c4, A, c, ?_, hown1, hfr1, hrd, hr1, H.out.2.1.trans hk1, H.out.2.2.2.2.2.2.2.2, HSm.out (by simp)⟩
      rw [Htl.out.1]
      exact congrArg (fun z => Ending.returned (Value.tuple #[.slice a4 full.length c4, .slice A line.length c, Value.int .i64 z, sent (E 0)])) (show ((full.flatten.length : Nat) : Int) + ((line.length : Nat) : Int) = ((full.flatten.length + line.length : Nat) : Int) by omega)
    · simp only at h0 hp
      subst h0
      have q := neq_same (E 4) w1
      obtain ⟨ad, rfl, _⟩ := H2.out.1.2 hp
      clear hr1
      rw [show errV E 5 = sent (E 4) from rfl]
      go_wp2_with fail
      have hcl := clone75 w1.heap.size ad c line w1 H2.out.1 (Nat.le_refl _) (by have := H2.out.2.2.2.2.2.2.1; unfold Room; omega)
      rw [← H2.out.2.2.2.2.2.2.1] at hcl
      refine hcl.mono ?_
      clear hcl
      rintro e w2 ⟨v2, rfl, hown2, hb2⟩
      rw [← H2.out.2.2.2.2.2.2.1] at hown2
      obtain ⟨a2, k2, rfl⟩ := own_slice hown2
      obtain ⟨hrd, hr1, hk1, hst, hown1, hfr1, hll, hsum2⟩ := H2.out
      have hk2 := Keep.ofBelow hb2 (rdX L)
      have hown1' : w2.ownsRow w.heap.size 25 1 (.slice a4 fl c4) fl vs := by rw [Htl.out.2]; exact own_keep hown1 (Keep.ofBelow hb2 (fun _ => False)) (fun _ _ h => h)
      have hfr2 := hfr1.keep (Keep.ofBelow hb2 (fun _ => False)) (fun _ _ h => h)
      have hr2 := hr1.keep (Keep.ofBelow hb2 (fun _ => False)) (fun _ h => h.elim) (fun _ h => h.elim)
      have hown2' := own_base hown2 (Nat.le_trans H.out.2.1.size hk1.size)
      have hsz : w.heap.size ≤ (w2.alloc (.cells #[.slice a2 ll k2] 25)).heap.size := by
        have := H.out.2.1.size; have := hk1.size; have := hb2.size; simp; omega
      have hown3 : (w2.alloc (.cells #[.slice a2 ll k2] 25)).ownsRow w.heap.size 25 1 (.slice a4 fl c4) fl vs := own_keep hown1' ((Keep.refl (fun _ => False) w2).alloc _) (fun _ _ h => h)
      have hrd3 : Reads (w2.alloc (.cells #[.slice a2 ll k2] 25)) (w2.heap.size + 1) 1 (some ⟨w2.heap.size, 0, none⟩) 1 [.slice a2 ll k2] := by
        have := Reads.of_blk (A := some ⟨w2.heap.size, 0, none⟩) (cs := [.slice a2 ll k2]) (Blk.new w2 25 #[.slice a2 ll k2]) 0 1 (by simp) (fun _ => rfl)
        simpa using this
      have hone : ∀ u ∈ ([.slice a2 ll k2] : List Value), u.oneCell' = true := by intro u hu; simp at hu; subst hu; rfl
      have hrm : Room (fl + 1) := by
        have := H.out.2.2.2.2.2.2.2.2; have := Htl.out; unfold Room; omega
      have H3 := Lib.hid (And.intro hown2' (And.intro hb2 (And.intro hown3 (And.intro hrd3 (And.intro hone (And.intro hrm (And.intro hsz (And.intro hfr2 hr2)))))))); clear hown2 hb2 hrd hr1 hk1 hst hown1 hfr1 hll hsum2 hown1' hfr2 hr2 hown2' hown3 hrd3 hone hrm hsz hk2
      go_wp2_with (at_builtin; refine wpList_append_any _ rfl (.tmp 25) (.tmp 27) _ rfl w.heap.size 25 i0 _ 1 24 Tryd.underlying22 HI.out.1 HI.out.2.1 HI.out.2.2.1 HI.out.2.2.2 rfl (by omega) (.slice a4 fl c4) fl vs rfl H3.out.2.2.1 (w2.heap.size + 1) (some ⟨w2.heap.size, 0, none⟩) 1 1 [.slice a2 ll k2] rfl H3.out.2.2.2.1 H3.out.2.2.2.2.1 H3.out.2.2.2.2.2.1.len (H3.out.2.2.2.2.2.1.bytes 24 (by omega)) H3.out.2.2.2.2.2.2.1 ?_; intro v5 w5 hown5 hg5 hat5; obtain ⟨a5, k5, hv5⟩ := own_slice hown5; subst hv5; have H5 := Lib.hid (And.intro hown5 (And.intro hg5 hat5)); clear hown5 hg5 hat5)
      go_roundg gk'
      case measure => omega
      case rel =>
        obtain ⟨hrd, hr1, hk1, hst, hown1, hfr1, hll, hsum2⟩ := H2.out
        obtain ⟨hown2, hb2, hown3, _, _, _, hsz, hfr2, hr2⟩ := H3.out
        obtain ⟨hown5, hg5, hat5⟩ := H5.out
        have hka := (Keep.refl (fun _ => False) w2).alloc (.cells #[.slice a2 ll k2] 25)
        have hfr3 := hfr2.keep hka (fun _ _ h => h)
        have hfr5 := hfr3.grown hown3 hg5
        have ho3 : (w2.alloc (.cells #[.slice a2 ll k2] 25)).ownsRow w.heap.size 5 1 (.slice a2 ll k2) ll (bvs line) := own_keep hown2 hka (fun _ _ h => h)
        have ho5 : w5.ownsRow w.heap.size 5 1 (.slice a2 ll k2) ll (bvs line) := own_keep ho3 ((Keep.refl (fun k => (Value.slice a4 fl c4).ownBlock = some k) _).grown hg5 (fun k hk => .inl hk)) (fun k hk hk' => own_apart ho3 hown3 (by decide) k hk hk')
        have hkg : Keep (fun k => (Value.slice a4 fl c4).ownBlock = some k) (w2.alloc (.cells #[.slice a2 ll k2] 25)) w5 := (Keep.refl _ _).grown hg5 (fun k hk => .inl hk)
        have hr3 := hr2.keep hka (fun _ h => h.elim) (fun _ h => h.elim)
        have hLB : L.B ≤ w.heap.size := H1.out.1.size
        have hr5 := hr3.keep hkg (fun k hk => Nat.le_trans hLB (hown3.lt k hk).1) (fun k hk hx => by have := (hown3.lt k hk).1; have := H1.out.2.2.2 k hx; omega)
        have hkk : Keep (rdX L) w w5 := by
          refine (((H.out.2.1.trans hk1).trans (Keep.ofBelow hb2 _)).alloc _).then hkg ?_
          intro k hk
          exact .inr (hown3.lt k hk).1
        refine ⟨t, full ++ [line], vs ++ [.slice a2 ll k2], a5, k5, ?_, ?_, rfl, hr5, hkk, ?_, ⟨?_, ?_⟩, ?_, ?_, ?_, ?_, ?_⟩
        · rw [List.length_append, ← Htl.out.2]; rfl
        · rw [List.flatten_append, List.length_append, ← Htl.out.1]
          simp only [List.flatten_cons, List.flatten_nil, List.append_nil]
          rw [← hll]
          exact congrArg (Value.int .i64) (by omega)
        · rw [List.length_append, ← Htl.out.2]; exact hown5
        · rw [List.length_append, List.length_append, hfr2.1]; rfl
        · intro j p hj
          rcases Nat.lt_or_ge j full.length with hjl | hjl
          · rw [List.getElem?_append_left hjl] at hj
            obtain ⟨v, hv, ho⟩ := hfr5.2 j p hj
            exact ⟨v, by rw [List.getElem?_append_left (by rw [hfr2.1]; exact hjl)]; exact hv, ho⟩
          · rw [List.getElem?_append_right hjl] at hj
            have hj0 : j - full.length = 0 := by
              rcases Nat.eq_zero_or_pos (j - full.length) with e | e
              · exact e
              · rw [List.getElem?_eq_none (by simp; omega)] at hj; cases hj
            rw [hj0] at hj
            simp at hj
            subst hj
            refine ⟨.slice a2 ll k2, ?_, by rw [← hll]; exact ho5, List.length_pos_iff.1 hp⟩
            rw [List.getElem?_append_right (by rw [hfr2.1]; exact hjl), hfr2.1, hj0]; rfl
        · rw [← H.out.2.2.2.2.1, hst, if_pos (by trivial)]
        · have h1 := H.out.2.2.2.2.2.1
          have h2 := congrArg List.length HD.out.left
          rw [List.length_append] at h2
          simp only at h2
          omega
        · exact HD.out.eof
        · rw [← hsum2]; simp
        · have h1 := H.out.2.2.2.2.2.2.2.2
          rw [List.length_append, List.flatten_append, List.length_append]
          simp
          simp at h1
          omega
end Go.Proofs.YtancmlapnhccdaaDoor

/- bufio.Reader: ReadBytes. -/
namespace Go.Proofs.YtancmlapnhccdaaDoor
open Go.RowKit

/-- make([]byte, n) -/
theorem make_bytesR (n : Nat) (hn : n ≤ 1000000000) (w : World) :
    (Instr.makeSlice 25 (.int .i64 (n : Int)) (.int .i64 (n : Int))).run Tryd.prog w = .ok (.slice (some ⟨w.heap.size, 0, none⟩) n n) (w.alloc (.cells (bvs (zeros n)).toArray 5)) := by
  obtain ⟨i0, hi0, hz0, hz1, hz2⟩ := info_parts Tryd.info5
  have h := run_make (P := Tryd.prog) w 25 5 i0 (.int .u8 0) Tryd.underlying25 hi0 hz0 .i64 .i64 (n : Int) (n : Int) (by omega) (Int.le_refl _) (by rw [hz2]; omega) (by omega)
  rw [hz1, Int.toNat_natCast, made_zero] at h
  exact h

/-- the first i pieces, and zeros behind them -/
def fillTo (full : List (List UInt8)) (T i : Nat) : List UInt8 := (full.take i).flatten ++ zeros (T - (full.take i).flatten.length)
theorem splice_zeros (a p : List UInt8) (T : Nat) : splice (a ++ zeros (T - a.length)) a.length p = (a ++ p) ++ zeros (T - (a ++ p).length) := by
  unfold splice
  rw [List.take_left' rfl, List.append_assoc]
  congr 1
  rw [List.drop_append, List.drop_of_length_le (by omega), List.nil_append]
  congr 1
  simp [zeros]
  omega
theorem fillTo_step (full : List (List UInt8)) (T i : Nat) (hi : i < full.length) : splice (fillTo full T i) (full.take i).flatten.length full[i] = fillTo full T (i + 1) := by
  have e := take_step full i hi
  have := splice_zeros (full.take i).flatten full[i] T
  unfold fillTo
  rw [this, e]
theorem fillTo_len (full : List (List UInt8)) (T i : Nat) (h : (full.take i).flatten.length ≤ T) : (fillTo full T i).length = T := by
  unfold fillTo
  rw [List.length_append, zeros_length]
  omega

def RbyRel (full : List (List UInt8)) (T G : Nat) (w2 : World) (k : Nat) (t8 t24 : Value) (wr : World) : Prop :=
  ∃ i : Nat, i ≤ full.length ∧ t24 = .int .i64 (i : Int) ∧ t8 = .int .i64 (((full.take i).flatten.length : Nat) : Int) ∧ Blk wr G 5 (bvs (fillTo full T i)).toArray ∧ Keep (· = G) w2 wr ∧ k = full.length - i

set_option maxRecDepth 100000 in
set_option maxHeartbeats 4000000 in
theorem readBytes54 (E : Nat → Addr) (L : RL) (s : RS) (d : UInt8) (w : World) (h : RdrAt w E L s) (heof : s.eof = true → s.src.flatten = []) (hroom : Room (left s).length) :
    Calls Tryd.prog 54 #[.pointer (some ⟨L.R, 0, none⟩), .int .u8 (d.toNat : Int)] w (Peeked E L (lineM d s) w) := by
  have hcs := coll_spec d (dmeas s) s [] h.ok (by unfold dmeas; omega) heof
  have HR := Lib.hid (And.intro hroom (And.intro hcs (rdX_lt h))); clear hcs
  have Hc := Lib.hid (collect68 E L s d w h heof hroom); clear h heof hroom
  obtain ⟨y, hy⟩ : ∃ y, y = collM d s := ⟨_, rfl⟩
  have hly : lineM d s = (y.1, y.2.1.flatten ++ y.2.2.1, y.2.2.2) := by rw [hy]; rfl
  rw [hly]
  have hlen : y.2.1.flatten.length + y.2.2.1.length ≤ 1000000000 := by
    have h3 := congrArg List.length HR.out.2.1.2.2.1
    have h4 := lineL_len (left s) d
    have h5 := HR.out.1
    unfold Room at h5
    have e : collF d (dmeas s) s [] = y := hy.symm
    rw [e] at h3
    simp only [List.length_append, List.flatten_nil, List.nil_append] at h3
    omega
  rw [← hy] at Hc
  clear hy hly
  obtain ⟨t, full, frag, err⟩ := y
  simp only at hlen ⊢
  obtain ⟨T, hT⟩ : ∃ T, T = full.flatten.length + frag.length := ⟨_, rfl⟩
  go_enter Tryd.func54, Tryd.ntmps54
  go_wp2_with fail
  refine Hc.out.mono ?_
  rintro e w1 ⟨vs, a4, c4, A, c, rfl, hown, hfr, hrd, hr1, hk1, hfl, _⟩
  simp only at hown hfr hrd hr1 hfl ⊢
  rw [← hT] at hlen ⊢
  have hmk := make_bytesR T hlen
  have HT := Lib.hid hT; clear hT
  obtain ⟨fl, hfle⟩ : ∃ fl, fl = full.length := ⟨_, rfl⟩
  rw [← hfle]
  obtain ⟨gl, hgle⟩ : ∃ gl, gl = frag.length := ⟨_, rfl⟩
  rw [← hgle]
  have Hl := Lib.hid (And.intro hfle hgle); clear hfle hgle
  have H1 := Lib.hid (And.intro hown (And.intro hfr (And.intro hrd (And.intro hr1 (And.intro hk1 hfl))))); clear hown hfr hrd hr1 hk1 hfl
  obtain ⟨ev, hev⟩ : ∃ ev, ev = errV E err := ⟨_, rfl⟩
  rw [← hev]
  have Hev := Lib.hid hev; clear hev
  have hflI : (fl : Int) ≤ 1000000000 := by
    have := H1.out.2.2.2.2.2; have := Hl.out.1; have := HT.out; omega
  go_wp2_with fail
  go_loopg [8, 24] full.length (fun k t8 t24 wr => RbyRel full T w1.heap.size (w1.alloc (.cells (bvs (zeros T)).toArray 5)) k t8 t24 wr)
  case atStart => exact ⟨0, Nat.zero_le _, rfl, rfl, by simpa [fillTo] using Blk.new w1 5 (bvs (zeros T)).toArray, Keep.refl _ _, rfl⟩
  case round =>
    obtain ⟨i, hi, rfl, rfl, hblk, hkp, hkk⟩ := hrel
    have hka : Keep (fun _ => False) w1 (w1.alloc (.cells (bvs (zeros T)).toArray 5)) := (Keep.refl _ w1).alloc _
    have hkw : Keep (· = w1.heap.size) w1 wr := (hka.mono (fun _ h => h.elim)).trans hkp
    have htk : (full.take i).flatten.length ≤ T := by have := take_flat full i; have := HT.out; omega
    have hnG : ∀ k, k < w1.heap.size → ¬ k = w1.heap.size := fun k hk e => by omega
    obtain ⟨off, hoff⟩ : ∃ off, off = (full.take i).flatten.length := ⟨_, rfl⟩
    rw [← hoff] at htk ⊢
    have hfill := fillTo_len full T i (by rw [← hoff]; exact htk)
    have hsl := slice_l w1.heap.size T off htk
    by_cases hlt : i < full.length
    · have hd : decide (i < fl) = true := by rw [Hl.out.1]; simpa using hlt
      have hrow := Reads.of_own H1.out.1
      obtain ⟨ad, u, hA, hadb, hvs, hcell1⟩ := hrow.at_ hlt
      subst hA
      have hcell := (hkw.cell (p := ad.add i) (by rw [block_of_add]; exact hadb) (by rw [block_of_add]; exact hnG _ hadb)).trans hcell1
      clear hcell1
      obtain ⟨v, hv, hvo, _⟩ := H1.out.2.1.2 i full[i] (List.getElem?_eq_getElem hlt)
      rw [hvs] at hv
      injection hv with hv
      subst hv
      obtain ⟨a1, c1, rfl⟩ := own_slice hvo
      have hpo := Reads.of_own hvo
      have hpr : Reads wr wr.heap.size 1 a1 (full[i]).length (bvs full[i]) := by
        refine ⟨hpo.1, fun h0 => ?_⟩
        obtain ⟨ad1, e1, hb1, hc1⟩ := hpo.2 h0
        exact ⟨ad1, e1, Nat.lt_of_lt_of_le hb1 hkw.size, fun j u hj => (hkw.cell (p := ad1.add j) (by rw [block_of_add]; exact hb1) (by rw [block_of_add]; exact hnG _ hb1)).trans (hc1 j u hj)⟩
      have hst := fillTo_step full T i hlt
      have htk1 : (full.take (i + 1)).flatten = (full.take i).flatten ++ full[i] := take_step full i hlt
      have htl : off + (full[i]).length ≤ T := by
        have h1 := take_flat full (i + 1); have := HT.out
        rw [htk1, List.length_append, ← hoff] at h1; omega
      rw [← hoff] at hst
      generalize full[i] = p at *
      have hmn : (bvs p).length = Nat.min p.length (T - off) := by rw [bvs_length]; exact (Nat.min_eq_left (by omega)).symm
      have hfit : off + (bvs p).length ≤ (bvs (fillTo full T i)).length := by rw [bvs_length, bvs_length, hfill]; exact htl
      have hpos : 0 < (bvs p).length → cutA w1.heap.size T off = some ⟨w1.heap.size, off, none⟩ ∧ ∃ ad, a1 = some ad ∧ ∀ j v, (bvs p)[j]? = some v → wr.drew.cell? (ad.add j) = some v := by
        intro h0
        rw [bvs_length] at h0
        obtain ⟨ad1, e1, _, hc1⟩ := hpr.2 h0
        exact ⟨cutA_pos (by omega), ad1, e1, hc1⟩
      obtain ⟨pl, hpl⟩ : ∃ pl, pl = p.length := ⟨_, rfl⟩
      have hil : i < 1000000000 := by have := Hl.out.1; omega
      have htl2 : off + pl ≤ 1000000000 := by omega
      have HP := Lib.hid (And.intro hmn (And.intro hfit (And.intro hpos (And.intro (bvs_one p) (And.intro (Blk.drew hblk) (And.intro hst (And.intro htk1 (And.intro hkp (And.intro hkk (And.intro hoff hpl))))))))))
      have hii : (i : Int) < (fl : Int) := by have := Hl.out.1; omega
      clear hmn hfit hpos hblk hst htk1 hkp hkk hoff hpl hrow hpo hpr hvs hvo hka hnG hfill
      clear hmk
      go_wp2_with fail
      have k0 := Lib.hid hcell
      have hnad : ¬ (ad.add i).block = w1.heap.size := by rw [block_of_add]; omega
      have hadw : (ad.add i).block < wr.heap.size := by rw [block_of_add]; exact Nat.lt_of_lt_of_le hadb hkw.size
      have hplen : pl = p.length := HP.out.2.2.2.2.2.2.2.2.2.2
      go_region_held3 (fun w' => w'.cell? (ad.add i) = some (.slice a1 p.length c1)) (first | exact k0.out | exact k1.out)
        ((refine step_copy_keep rfl (.tmp 30) (.tmp 34) 25 25 (by rfl) 5 Tryd.underlying25 Tryd.size5 (cutA w1.heap.size T off) a1 (T - off) (T - off) p.length c1 (by rfl) (by rfl) w1.heap.size off (bvs (fillTo full T i)) 5 HP.out.2.2.2.2.1 (bvs p) HP.out.1 HP.out.2.2.1 HP.out.2.1 HP.out.2.2.2.1 ?_; intro w6 hG6 hK6; have k1 := Lib.hid ((hK6.cell (p := ad.add i) hadw hnad).trans k0.out); have H6 := Lib.hid (And.intro hG6 hK6); clear hG6 hK6 k0))
      go_wp2_with fail
      go_roundg (full.length - (i + 1))
      case measure => have := HP.out.2.2.2.2.2.2.2.2.1; omega
      case rel =>
        obtain ⟨hmn, hfit, hpos, _, _, hst, htk1, hkp, hkk, hoff, hpl⟩ := HP.out
        refine ⟨i + 1, hlt, by go_num, ?_, ?_, ?_, rfl⟩
        · rw [htk1, List.length_append, ← hoff, bvs_length]
          exact congrArg (Value.int .i64) (by rw [IntWalk.i64_in _ (by omega)]; omega)
        · rw [← hst, ← bvs_splice]; exact H6.out.1
        · exact hkp.drew.trans H6.out.2
    · have hd : decide (i < fl) = false := by rw [Hl.out.1]; simpa using hlt
      have hall : full.take i = full := List.take_of_length_le (by omega)
      have hpr : Reads wr w1.heap.size 1 A frag.length (bvs frag) := by
        have hpo := H1.out.2.2.1
        refine ⟨hpo.1, fun h0 => ?_⟩
        obtain ⟨ad1, e1, hb1, hc1⟩ := hpo.2 h0
        exact ⟨ad1, e1, hb1, fun j u hj => (hkw.cell (p := ad1.add j) (by rw [block_of_add]; exact hb1) (by rw [block_of_add]; exact hnG _ hb1)).trans (hc1 j u hj)⟩
      have hoff2 : off = full.flatten.length := by rw [hoff, hall]
      have hmn : (bvs frag).length = Nat.min gl (T - off) := by
        rw [bvs_length, Hl.out.2]; exact (Nat.min_eq_left (by have := HT.out; omega)).symm
      have hfit : off + (bvs frag).length ≤ (bvs (fillTo full T i)).length := by
        rw [bvs_length, bvs_length, hfill]; have := HT.out; omega
      have hpos : 0 < (bvs frag).length → cutA w1.heap.size T off = some ⟨w1.heap.size, off, none⟩ ∧ ∃ ad, A = some ad ∧ ∀ j v, (bvs frag)[j]? = some v → wr.cell? (ad.add j) = some v := by
        intro h0
        rw [bvs_length] at h0
        obtain ⟨ad1, e1, _, hc1⟩ := hpr.2 h0
        exact ⟨cutA_pos (by have := HT.out; omega), ad1, e1, hc1⟩
      have hfin : splice (fillTo full T i) off frag = full.flatten ++ frag := by
        have e := splice_zeros full.flatten frag T
        unfold fillTo
        rw [hall, hoff2, e]
        have : T - (full.flatten ++ frag).length = 0 := by rw [List.length_append]; have := HT.out; omega
        rw [this]; simp [zeros]
      have HP := Lib.hid (And.intro hmn (And.intro hfit (And.intro hpos (And.intro (bvs_one frag) (And.intro hblk (And.intro hfin (And.intro hkp hkw)))))))
      clear hmn hfit hpos hblk hkp hkk hoff hoff2 hpr hka hnG hfill hfin hkw hall hmk
      go_wp2_with ((with_reducible refine wpList_copy_keep rfl (.tmp 40) (.tmp 41) 25 25 rfl 5 Tryd.underlying25 Tryd.size5 (cutA w1.heap.size T off) A (T - off) (T - off) gl c rfl rfl w1.heap.size off (bvs (fillTo full T i)) 5 HP.out.2.2.2.2.1 (bvs frag) HP.out.1 HP.out.2.2.1 HP.out.2.1 HP.out.2.2.2.1 ?_); intro w6 hG6 hK6; have H6 := Lib.hid (And.intro hG6 hK6); clear hG6 hK6)
      go_ret2
      obtain ⟨hmn, hfit, hpos, _, hblk, hfin, hkp, hkw⟩ := HP.out
      obtain ⟨hG6, hK6⟩ := H6.out
      rw [bvs_splice, hfin] at hG6
      have hLB : L.B ≤ w1.heap.size := H1.out.2.2.2.1.size
      have hk6 : Keep (· = w1.heap.size) w1 w6 := hkw.trans hK6
      have hr6 := H1.out.2.2.2.1.keep hk6 (fun k e => by rw [e]; exact hLB) (fun k e hx => by have := rdX_lt H1.out.2.2.2.1 k hx; omega)
      have hTl : T = (full.flatten ++ frag).length := by rw [List.length_append]; exact HT.out
      refine ⟨some ⟨w1.heap.size, 0, none⟩, T, ?_, ?_, hr6, H1.out.2.2.2.2.1.then hk6 (fun k e => .inr (by rw [e]; exact H1.out.2.2.2.2.1.size)), fun _ => ⟨_, rfl, hG6.lt⟩⟩
      · rw [← Hev.out, ← hTl]; rfl
      · have := Reads.of_blk (A := some ⟨w1.heap.size, 0, none⟩) hG6 0 (full.flatten ++ frag).length (by rw [bvs_length]; omega) (fun _ => rfl)
        rw [List.drop_zero, ← bvs_take, List.take_of_length_le (Nat.le_refl _)] at this
        exact this.more (by have := hG6.lt; omega)
end Go.Proofs.YtancmlapnhccdaaDoor
