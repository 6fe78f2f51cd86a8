/- laws.FnPieces: the walk. -/
import Derived.Test.YtancmlapnhccdaaDoorLrn
namespace Go.Proofs.YtancmlapnhccdaaDoor
open Go.RowKit

def onesL (l : List UInt8) : List (List UInt8) := l.map fun b => [b]
theorem onesL_flat (l : List UInt8) : (onesL l).flatten = l := by
  unfold onesL
  induction l with
  | nil => rfl
  | cons b l ih => simp only [List.map_cons, List.flatten_cons, ih]; rfl
theorem own_max {w : World} {N n size c : Nat} {e : TypeId} {a : Option Addr} {xs : List Value} (h : w.ownsRow N e size (.slice a n c) n xs) : c ≤ maxLen := by
  rcases h.2 with ⟨hv, _⟩ | ⟨g, cap, cur, hv, _, _, _, hm, _⟩
  · injection hv with _ _ h3
    rw [h3]
    simp [maxLen]
  · injection hv with _ _ h3
    rw [h3]
    exact hm
/-- pieces in a row of one's own -/
def PcFlat (w : World) (B : Nat) (vs : List Value) (ps : List (List UInt8)) : Prop := ∀ (j : Nat) (p : List UInt8), ps[j]? = some p → ∃ v, vs[j]? = some v ∧ PieceAt w B v p
theorem PcFlat.below {w w' : World} {B : Nat} {vs : List Value} {ps : List (List UInt8)} (h : PcFlat w B vs ps) (hb : Below B w w') : PcFlat w' B vs ps := fun j p hj => by
  obtain ⟨v, h1, h2⟩ := h j p hj
  exact ⟨v, h1, h2.below hb⟩
theorem PcFlat.snoc {w : World} {B : Nat} {vs : List Value} {ps : List (List UInt8)} {v : Value} {p : List UInt8} (h : PcFlat w B vs ps) (hl : vs.length = ps.length) (hv : PieceAt w B v p) : PcFlat w B (vs ++ [v]) (ps ++ [p]) := by
  intro j q hj
  rcases Nat.lt_trichotomy j ps.length with hlt | rfl | hgt
  · rw [List.getElem?_append_left hlt] at hj
    obtain ⟨v', h1, h2⟩ := h j q hj
    exact ⟨v', by rw [List.getElem?_append_left (by omega)]; exact h1, h2⟩
  · rw [List.getElem?_append_right (Nat.le_refl _)] at hj
    simp only [Nat.sub_self, List.getElem?_cons_zero, Option.some.injEq] at hj
    subst hj
    exact ⟨v, by rw [List.getElem?_append_right (by omega), hl]; simp, hv⟩
  · rw [List.getElem?_eq_none (by simp; omega)] at hj
    cases hj
theorem pieces_own {w : World} {N B n c : Nat} {A : Option Addr} {vs : List Value} {ps : List (List UInt8)} (hn : n = ps.length) (ho : w.ownsRow N 25 1 (.slice A n c) n vs) (hf : PcFlat w B vs ps) (hB : B ≤ w.heap.size) : PiecesAt w w.heap.size A ps := by
  subst hn
  refine ⟨vs, Reads.of_own ho, fun j p hj => ?_⟩
  obtain ⟨v, h1, h2⟩ := hf j p hj
  exact ⟨v, h1, h2.more hB⟩
theorem pieces_one (w : World) {B c : Nat} {A : Option Addr} {l : List UInt8} (hr : Reads w B 1 A l.length (bvs l)) (hB : B ≤ w.heap.size) (hc : l.length ≤ c) (hm : c ≤ maxLen) : PiecesAt (w.alloc (.cells #[.slice A l.length c] 25)) (w.alloc (.cells #[.slice A l.length c] 25)).heap.size (some ⟨w.heap.size, 0, none⟩) [l] := by
  have hb : Below w.heap.size w (w.alloc (.cells #[.slice A l.length c] 25)) := (Below.refl _ _).alloc (Nat.le_refl _) _
  refine ⟨[.slice A l.length c], ⟨rfl, fun _ => ⟨_, rfl, by simp, fun j u hj => ?_⟩⟩, fun j p hj => ?_⟩
  · rw [add_mk, Nat.zero_add, (Blk.new w 25 #[.slice A l.length c]).cell j]
    rw [← hj]
    simp
  · rcases j with _ | j
    · simp only [List.getElem?_cons_zero, Option.some.injEq] at hj
      subst hj
      exact ⟨_, rfl, A, l.length, c, rfl, hc, hm, rfl, ((hr.more hB).below hb).more hb.size⟩
    · simp at hj
theorem sl_reads (w2 : World) (u : Value) : Reads (w2.alloc (.cells #[u] 25)) (w2.alloc (.cells #[u] 25)).heap.size 1 (some ⟨w2.heap.size, 0, none⟩) 1 [u] := by
  refine ⟨rfl, fun _ => ⟨_, rfl, by simp, fun j v hj => ?_⟩⟩
  rw [add_mk, Nat.zero_add, (Blk.new w2 25 #[u]).cell j]
  rw [← hj]
  simp

def PcRel (all : List UInt8) (w1 : World) (k : Nat) (t8 t23 : Value) (wr : World) : Prop :=
  ∃ i a c vs, i ≤ all.length ∧ t23 = .int .i64 ((i : Nat) : Int) ∧ t8 = .slice a i c ∧ wr.ownsRow w1.heap.size 25 1 (.slice a i c) i vs ∧ PcFlat wr w1.heap.size vs (onesL (all.take i)) ∧ Below w1.heap.size w1 wr ∧ k = all.length - i

set_option maxRecDepth 100000 in
set_option maxHeartbeats 2000000 in
theorem law16 (E : Nat → Addr) (n : Nat) (hn : n ≤ 255) (A : Option Addr) (c : Nat) (ps : List (List UInt8)) (A2 : Option Addr) (c2 : Nat) (cs : List CallD) (w : World) (hE : Env w w.heap.size E) (ht : Lib.Utf8Tabs 9 10 w) (hp : PiecesAt w w.heap.size A ps) (hc : CallsAt w w.heap.size A2 cs) (hroom : Room (ps.flatten.length + 255)) (hl : Room ps.length) (hcl : Room (callsLen cs + 1000)) :
    Calls Tryd.prog 16 #[.int .u8 (n : Nat), .slice A ps.length c, .slice A2 cs.length c2] w (LawTrue w) := by
  obtain ⟨i0, hi0, hz0, hz1, hz2⟩ := info_parts Tryd.info25
  have HI := Lib.hid (And.intro hi0 (And.intro hz0 (And.intro hz1 hz2))); clear hi0 hz0 hz1 hz2
  obtain ⟨all, hall⟩ : ∃ all, all = ps.flatten := ⟨_, rfl⟩
  have hab : all.length + 255 ≤ 1000000000 := by rw [hall]; exact hroom
  have Hall := Lib.hid hall; clear hall
  have HE := Lib.hid (And.intro hE (And.intro ht (And.intro hp (And.intro hroom (And.intro hl (And.intro hc (hcl.mono (Nat.le_add_right _ _)))))))); clear hE hp hroom hl ht hc hcl
  go_enter Tryd.func16, Tryd.ntmps16
  go_wp2_with fail
  refine (joined22 A c ps w HE.out.2.2.1 (HE.out.2.2.2.1.mono (by omega)) HE.out.2.2.2.2.1).mono ?_
  rintro e w1 ⟨v1, rfl, hown1, hb1⟩
  rw [← Hall.out] at hown1
  obtain ⟨a1, c1, rfl⟩ := own_slice hown1
  have hl1 := own_cap hown1
  have hown0 : (w1.alloc (.cells #[] 25)).ownsRow w1.heap.size 25 1 (.slice (some ⟨w1.heap.size, 0, none⟩) 0 0) 0 [] := World.ownsRow_made w1 #[] 0 (Nat.le_refl _) (by simp [maxLen]) (by simp)
  have H1 := Lib.hid (And.intro hown1 (And.intro hb1 hown0)); clear hown1 hb1 hown0
  go_wp2_with fail
  go_loopg [8, 23] all.length (fun k t8 t23 wr => PcRel all w1 k t8 t23 wr)
  case atStart => exact ⟨0, _, _, [], Nat.zero_le _, rfl, rfl, H1.out.2.2, fun j p hj => by simp [onesL] at hj, (Below.refl _ _).alloc (Nat.le_refl _) _, rfl⟩
  case round =>
    obtain ⟨i, a, c', vs, hi, ht23, ht8, hown, hpf, hb, hk⟩ := hrel
    subst ht23 ht8
    have Hk := Lib.hid hk; clear hk
    by_cases hlt : i < all.length
    · have hd : decide (i < all.length) = true := by simpa using hlt
      obtain ⟨ad, e1, hadb, hcell⟩ := (Reads.of_own H1.out.1).2 (by omega)
      have hsl : ∀ w, (Instr.slice 25 (.slice a1 all.length c1) (some (.int .i64 (i : Nat))) (some (.int .i64 ((i : Int) + 1))) none).run Tryd.prog w = .ok (.slice (some (ad.add i)) 1 (c1 - i)) w := by
        intro w
        have := slice_part ad all.length c1 i (i + 1) (by omega) (by omega) w
        unfold cutS at this
        rw [if_neg (by omega), Nat.add_sub_cancel_left] at this
        rw [e1]
        exact this
      have hpc : PieceAt w1 w1.heap.size (.slice (some (ad.add i)) 1 (c1 - i)) [all[i]] := by
        refine ⟨_, _, _, rfl, by omega, by have := own_max H1.out.1; omega, rfl, rfl, fun _ => ⟨_, rfl, by rw [block_of_add]; exact hadb, fun j u hj => ?_⟩⟩
        rcases j with _ | j
        · rw [add_of_add, Nat.add_zero]
          refine hcell i u ?_
          rw [bvs_get, List.getElem?_eq_getElem hlt]
          simpa [bvs] using hj
        · simp [bvs] at hj
      have hst : onesL (all.take (i + 1)) = onesL (all.take i) ++ [[all[i]]] := by
        unfold onesL
        rw [List.take_add_one, List.getElem?_eq_getElem hlt, Option.toList_some, List.map_append]
        rfl
      have hbo : Below wr.heap.size wr (wr.alloc (.cells #[.slice (some (ad.add i)) 1 (c1 - i)] 25)) := (Below.refl _ _).alloc (Nat.le_refl _) _
      have ho4 := own_keep hown (Keep.ofBelow hbo (fun _ => False)) (fun _ _ h => h)
      have hr4 := sl_reads wr (.slice (some (ad.add i)) 1 (c1 - i))
      have hsz : w1.heap.size ≤ (wr.alloc (.cells #[.slice (some (ad.add i)) 1 (c1 - i)] 25)).heap.size := Nat.le_trans hb.size hbo.size
      have hrm : Room (i + 1) := by unfold Room; omega
      have hone : ∀ u ∈ [Value.slice (some (ad.add i)) 1 (c1 - i)], u.oneCell' = true := by intro u hu; simp at hu; subst hu; rfl
      have H2 := Lib.hid (And.intro ho4 (And.intro hr4 (And.intro hone (And.intro hrm (And.intro hsz (And.intro hbo (And.intro hpc (And.intro hst (And.intro hown (And.intro hpf (And.intro hb e1))))))))))); clear ho4 hr4 hone hrm hsz hbo hpc hst hown hpf hb hcell e1
      generalize ad.add i = ad' at *
      go_wp2_with (at_builtin; refine wpList_append_any _ rfl (.tmp 26) (.tmp 32) _ rfl w1.heap.size 25 i0 _ 1 24 Tryd.underlying22 HI.out.1 HI.out.2.1 HI.out.2.2.1 HI.out.2.2.2 rfl (by omega) (.slice a i c') i vs rfl H2.out.1 _ _ 1 1 [.slice (some ad') 1 (c1 - i)] rfl H2.out.2.1 H2.out.2.2.1 H2.out.2.2.2.1.len (H2.out.2.2.2.1.bytes 24 (by omega)) H2.out.2.2.2.2.1 ?_; intro v4 w4 hown4 hg4 hat4; obtain ⟨b4, k4, hv4⟩ := own_slice hown4; subst hv4; have H4 := Lib.hid (And.intro hown4 hg4); clear hown4 hg4 hat4)
      go_roundg (all.length - (i + 1))
      case measure => have := Hk.out; omega
      case rel =>
        obtain ⟨hown4, hg4⟩ := H4.out
        obtain ⟨_, _, _, _, _, hbo, hpc, hst, hown, hpf, hb, _⟩ := H2.out
        have hb4 : Below w1.heap.size w1 w4 := (hb.trans (hbo.mono hb.size)).grown hg4 (Nat.le_trans hb.size hbo.size) (fun k hk => (hown.lt k hk).1)
        have hbr : Below w1.heap.size wr w4 := (hbo.mono hb.size).grown hg4 (Nat.le_trans hb.size hbo.size) (fun k hk => (hown.lt k hk).1)
        refine ⟨i + 1, b4, k4, vs ++ [.slice (some ad') 1 (c1 - i)], hlt, ?_, rfl, hown4, ?_, hb4, rfl⟩
        · refine congrArg (Value.int .i64) ?_
          first | rfl | omega | (rw [IntWalk.wrap64_in _ (by omega)]; rfl)
        · rw [hst]
          exact (hpf.below hbr).snoc (by have := hown.1; rw [Nat.mul_one] at this; simp [onesL]; omega) (hpc.below hb4)
    · have hd : decide (i < all.length) = false := by simpa using hlt
      have hia : i = all.length := by omega
      have hta : all.take i = all := List.take_of_length_le (by omega)
      rw [hta] at hpf
      subst hia
      have hol : (onesL all).length = all.length := by simp [onesL]
      have hbw := below2 H1.out.2.1 hb
      have hpo : PiecesAt wr wr.heap.size a (onesL all) := pieces_own hol.symm hown hpf hb.size
      have hown1 := own_keep H1.out.1 (Keep.ofBelow hb (fun _ => False)) (fun _ _ h => h)
      have hans := answers21 a1 c1 all A2 c2 cs wr (Reads.of_own hown1) (own_cap hown1) (own_nil hown1) ((HE.out.2.2.2.2.2.1.below hbw).more hbw.size) (by unfold Room; omega) HE.out.2.2.2.2.2.2
      have H3 := Lib.hid (And.intro hbw (And.intro hpo (And.intro hown1 (And.intro hans hol)))); clear hbw hpo hown1 hans hol hta hpf hown hb
      go_wp2_with fail
      refine H3.out.2.2.2.1.mono ?_
      rintro e w2 ⟨a2, k2, v2, flat2, rfl, hown2, houts2, hall2, hb2⟩
      obtain ⟨aw, ha⟩ : ∃ aw, aw = (as0 all).run cs := ⟨_, rfl⟩
      rw [← ha] at houts2 hall2 ⊢
      obtain ⟨a3, k3, rfl⟩ := own_slice hall2
      have hlen : aw.outs.length = cs.length := by rw [ha, AS.run_len]; simp [as0]
      have htold : ∀ qs : List (List UInt8), qs.flatten = all → aw.told = true → (runM (newReader (rsize n) qs) ⟨zeros (wsize n), 0, []⟩ cs).2.2 = aw.outs := by
        intro qs hq h
        rw [ha, ← hq] at h ⊢
        exact told_new n hn qs _ cs h
      have hb12 := below2 H3.out.1 hb2
      have hown12 := own_keep H3.out.2.2.1 (Keep.ofBelow hb2 (fun _ => False)) (fun _ _ h => h)
      have hp1 := pieces_one w2 (Reads.of_own hown12) (Nat.le_refl _) (own_cap hown12) (own_max hown12)
      have hbp : Below w2.heap.size w2 (w2.alloc (.cells #[.slice a1 all.length c1] 25)) := (Below.refl _ _).alloc (Nat.le_refl _) _
      have hbp2 := below2 hb12 hbp
      have hrun := run23 E n hn (some ⟨w2.heap.size, 0, none⟩) 1 [all] A2 c2 cs _ ((HE.out.1.below hbp2).more hbp2.size) (tabs_keep HE.out.2.1 (Keep.ofBelow hbp2 (fun _ => False)) (fun _ h => h.elim) HE.out.1.five) hp1 ((HE.out.2.2.2.2.2.1.below hbp2).more hbp2.size) (by simp [Room]; omega) (by simp [Room]) HE.out.2.2.2.2.2.2
      have hpo2 := (H3.out.2.1.below hb2).below (hbp.mono hb2.size)
      have hl1 := runM_len cs (newReader (rsize n) [all]) ⟨zeros (wsize n), 0, []⟩
      have H4 := Lib.hid (And.intro hbp2 (And.intro hrun (And.intro hlen (And.intro (htold [all] (by simp)) (And.intro (htold (onesL all) (onesL_flat all)) (And.intro hl1 (And.intro hpo2 (And.intro hb2.size hbp.size)))))))); clear hown2 houts2 hall2 hb2 hb12 hown12 hp1 hbp hbp2 hrun hlen htold ha hl1 hpo2
      obtain ⟨ar, ao, aa, af, at_⟩ := aw
      simp only at H4 ⊢
      rcases at_ with _ | _
      · have hr := H4.out.2.1
        have hlr := H4.out.2.2.2.2.2.1
        generalize (runM (newReader (rsize n) [all]) ⟨zeros (wsize n), 0, []⟩ cs).2.2 = os at hr hlr
        have HR := Lib.hid hr; clear hr
        go_wp2_with fail
        refine HR.out.mono ?_
        rintro e w3 ⟨a4, k4, gv, flat4, rfl, hown4, houts4, hgv, hb4⟩
        rw [hlr]
        have hb13 := below2 H4.out.1 hb4
        have hszq : wr.heap.size ≤ (w2.alloc (.cells #[.slice a1 all.length c1] 25)).heap.size := Nat.le_trans H4.out.2.2.2.2.2.2.2.1 H4.out.2.2.2.2.2.2.2.2
        have hpo3 := (H4.out.2.2.2.2.2.2.1.below (hb4.mono hszq)).more (Nat.le_trans hszq hb4.size)
        have hrun := run23 E n hn a c' (onesL all) A2 c2 cs w3 ((HE.out.1.below hb13).more hb13.size) (tabs_keep HE.out.2.1 (Keep.ofBelow hb13 (fun _ => False)) (fun _ h => h.elim) HE.out.1.five) hpo3 ((HE.out.2.2.2.2.2.1.below hb13).more hb13.size) (by rw [onesL_flat]; exact hab) (by rw [H3.out.2.2.2.2]; unfold Room; omega) HE.out.2.2.2.2.2.2
        rw [H3.out.2.2.2.2] at hrun
        have H5 := Lib.hid (And.intro hb13 hrun); clear hown4 houts4 hgv hb4 hb13 hrun hlr hpo3 hszq
        go_wp2_with fail
        refine H5.out.2.mono ?_
        rintro e w5 ⟨a5, k5, gv5, flat5, rfl, hown5, houts5, hgv5, hb5⟩
        have H6 := Lib.hid hb5; clear hown5 houts5 hgv5 hb5
        generalize cs.length = cl at *
        go_wp2_with fail
        go_ret
        exact ⟨rfl, below2 H5.out.1 H6.out⟩
      · have hr := H4.out.2.1
        rw [H4.out.2.2.2.1 (by first | rfl | trivial)] at hr
        have HR := Lib.hid hr; clear hr
        go_wp2_with fail
        refine HR.out.mono ?_
        rintro e w3 ⟨a4, k4, gv, flat4, rfl, hown4, houts4, hgv, hb4⟩
        have hb13 := below2 H4.out.1 hb4
        have hszq : wr.heap.size ≤ (w2.alloc (.cells #[.slice a1 all.length c1] 25)).heap.size := Nat.le_trans H4.out.2.2.2.2.2.2.2.1 H4.out.2.2.2.2.2.2.2.2
        have hpo3 := (H4.out.2.2.2.2.2.2.1.below (hb4.mono hszq)).more (Nat.le_trans hszq hb4.size)
        have hrun := run23 E n hn a c' (onesL all) A2 c2 cs w3 ((HE.out.1.below hb13).more hb13.size) (tabs_keep HE.out.2.1 (Keep.ofBelow hb13 (fun _ => False)) (fun _ h => h.elim) HE.out.1.five) hpo3 ((HE.out.2.2.2.2.2.1.below hb13).more hb13.size) (by rw [onesL_flat]; exact hab) (by rw [H3.out.2.2.2.2]; unfold Room; omega) HE.out.2.2.2.2.2.2
        rw [H3.out.2.2.2.2, H4.out.2.2.2.2.1 (by first | rfl | trivial)] at hrun
        have hs4 := outs_sl rfl hown4 houts4
        have hle := H4.out.2.2.1
        rw [hle]
        have H5 := Lib.hid (And.intro hb13 (And.intro hrun hs4)); clear hown4 houts4 hgv hb4 hb13 hrun hs4 hle hpo3 hszq
        go_wp2_with fail
        refine H5.out.2.1.mono ?_
        rintro e w5 ⟨a5, k5, gv5, flat5, rfl, hown5, houts5, hgv5, hb5⟩
        have hs := same24 a4 a5 k4 k5 ao w5 (H5.out.2.2.below hb5) (outs_sl rfl hown5 houts5) (HE.out.2.2.2.2.2.2.mono (by rw [H4.out.2.2.1]; exact callsLen_ge cs))
        have hle := H4.out.2.2.1
        rw [hle] at hs ⊢
        have H6 := Lib.hid (And.intro hb5 hs); clear hown5 houts5 hgv5 hb5 hs hle
        generalize cs.length = cl at *
        go_wp2_with fail
        refine H6.out.2.mono ?_
        rintro e w6 ⟨rfl, k, rfl⟩
        go_wp2_with fail
        go_ret
        exact ⟨rfl, below_drewN (below2 H5.out.1 H6.out.1) _⟩
end Go.Proofs.YtancmlapnhccdaaDoor
