/- The thin package's source: its method Read gives what is left of the first piece that is not empty, as much as there is room for; then the end. -/
import Derived.Test.YtancmlapnhccdaaDoorEnv
import Derived.Test.YtancmlapnhccdaaDoorMach
import Derived.Deep.LoopGhost
import Derived.RegionTactic
import Derived.BigRegion
namespace Go.Proofs.YtancmlapnhccdaaDoor
open Go.RowKit

/-- a piece: a slice of bytes that lies below B, or nil -/
def PieceAt (w : World) (B : Nat) (v : Value) (p : List UInt8) : Prop :=
  ∃ (A : Option Addr) (l c : Nat), v = .slice A l c ∧ l ≤ c ∧ c ≤ maxLen ∧ l = p.length ∧ Reads w B 1 A l (bvs p)

/-- a source at block S, its row of pieces in block P, the pieces below B -/
def SrcAt (w : World) (S P B : Nat) (ps : List (List UInt8)) : Prop :=
  ∃ (A : Option Addr) (c off : Nat) (row : List Value), Blk w S 81 #[.slice A ps.length c] ∧ Blk w P 25 row.toArray ∧ ps.length ≤ c ∧ c ≤ maxLen ∧ off + ps.length ≤ row.length ∧
    (0 < ps.length → A = some ⟨P, off, none⟩) ∧ ∀ j p, ps[j]? = some p → ∃ v, row[off + j]? = some v ∧ PieceAt w B v p

/-- the first piece is empty: it is passed over -/
theorem SrcAt.skip {w : World} {S P B : Nat} {r : List (List UInt8)} {A : Option Addr} {c off : Nat} {row : List Value} (hS : Blk w S 81 #[.slice A (r.length + 1) c]) (hP : Blk w P 25 row.toArray) (hc : r.length + 1 ≤ c) (hm : c ≤ maxLen)
    (ho : off + (r.length + 1) ≤ row.length) (hp : ∀ j p, ([] :: r)[j]? = some p → ∃ v, row[off + j]? = some v ∧ PieceAt w B v p) (hBS : B ≤ S) (hSP : S ≠ P) {A' : Option Addr} (hA' : 0 < r.length → A' = some ⟨P, off + 1, none⟩) :
    SrcAt (w.setCell ⟨S, 0, none⟩ (.slice A' r.length (c - 1))) S P B r := by
  refine ⟨A', c - 1, off + 1, row, ?_, hP.far (Ne.symm hSP) _, by omega, by omega, by omega, hA', fun j p hj => ?_⟩
  · have := hS.set_ 0 (.slice A' r.length (c - 1))
    simpa using this
  · obtain ⟨v, hv, Ap, l, cp, rfl, h1, h2, h3, h4⟩ := hp (j + 1) p (by simpa using hj)
    refine ⟨_, by rw [Nat.add_assoc, Nat.add_comm 1 j]; exact hv, Ap, l, cp, rfl, h1, h2, h3, h4.setCell (p := ⟨S, 0, none⟩) hBS _⟩

theorem SrcAt.ne {w : World} {S P B : Nat} {ps : List (List UInt8)} (h : SrcAt w S P B ps) : S ≠ P := by
  obtain ⟨A, c, off, row, h1, h2, _⟩ := h
  exact h1.ne_ h2 (by decide)

set_option maxHeartbeats 1000000 in
theorem src_end (S P B : Nat) (E : Nat → Addr) (ps : List (List UInt8)) (v : Value) (w : World) (hE : Env w B E) (hs : SrcAt w S P B ps) (hBS : B ≤ S) (hB : B ≤ w.heap.size) (hd : dropE ps = []) :
    Calls Tryd.prog 100 #[.pointer (some ⟨S, 0, none⟩), v] w fun e w' => e = .returned (.tuple #[.int .i64 0, sent (E 0)]) ∧ SrcAt w' S P B [] ∧ Keep (· = S) w w' := by
  have Hd := Lib.hid hd; clear hd
  go_enter Tryd.func100, Tryd.ntmps100
  go_wp2
  go_loopg [] ps.length (fun k wr => ∃ ps', ps'.length = k ∧ SrcAt wr S P B ps' ∧ dropE ps' = [] ∧ Keep (· = S) w wr)
  case atStart => exact ⟨ps, rfl, hs, Hd.out, Keep.refl _ _⟩
  case round =>
    obtain ⟨ps', hk, hs', hd', hkeep⟩ := hrel
    have hSP := hs'.ne
    have hs2 := hs'
    obtain ⟨A, c, off, row, hS, hP, hc, hm, ho, hA, hp⟩ := hs'
    rcases ps' with _ | ⟨_ | ⟨b, q⟩, r⟩
    · have c0 := (hE.keep hkeep (fun k hk => by omega) hB).at_ 0 (by omega)
      have c1 := hS.cell 0
      simp at c1
      have HK := Lib.hid (And.intro hk (And.intro hs2 hkeep))
      clear hk hs2 hkeep hS hP hc hm ho hA hp hd' Hd hs hE hBS hB hSP
      go_wp2
      go_quiet (fail)
      go_wp2
      go_ret2
      exact ⟨rfl, HK.out.2.1, HK.out.2.2.drewN _⟩
    · have hA' := hA (by simp)
      subst hA'
      obtain ⟨v0, hv0, A0, l0, cp0, rfl, h1, h2, h3, h4⟩ := hp 0 [] rfl
      simp at h3
      subst h3
      have c1 := hS.cell 0
      simp at c1
      have f1 := hS.frozen 0
      have c2 := hP.cell off
      simp at hv0
      simp [hv0] at c2
      have hc1 : (1 : Int) ≤ (c : Int) := by simp at hc; omega
      have hl1 : (1 : Int) ≤ (r.length : Int) + 1 := by omega
      have HK := Lib.hid (And.intro hk (And.intro hs2 hkeep))
      simp at hc ho
      have hskip := Lib.hid (fun A' hA' => SrcAt.skip (A' := A') (by simpa using hS) hP hc hm ho hp hBS hSP hA')
      have Hd' := Lib.hid hd'
      clear hk hs2 hkeep hS hP hm ho hA hp hd' Hd hs hE hB
      go_wp2
      · rename_i h
        subst h
        go_roundg r.length
        case measure => have := HK.out.1; simp at this; omega
        case rel => exact ⟨r, rfl, hskip.out _ (fun h0 => by omega), by simpa [dropE] using Hd'.out, HK.out.2.2.setCell (.inl rfl) _⟩
      · go_roundg r.length
        case measure => have := HK.out.1; simp at this; omega
        case rel => exact ⟨r, rfl, hskip.out _ (fun _ => rfl), by simpa [dropE] using Hd'.out, HK.out.2.2.setCell (.inl rfl) _⟩
    · simp [dropE] at hd'

theorem PieceAt.below {w w' : World} {B : Nat} {v : Value} {p : List UInt8} (h : PieceAt w B v p) (hb : Below B w w') : PieceAt w' B v p := by
  obtain ⟨A, l, c, rfl, h1, h2, h3, h4⟩ := h
  exact ⟨A, l, c, rfl, h1, h2, h3, h4.below hb⟩

/-- the first piece has given some bytes -/
theorem src_close {w wr w2 : World} {S P B g o c : Nat} {row cur' : List Value} {p0 p1 : List UInt8} {r : List (List UInt8)} {v1 : Value}
    (hS : Blk wr S 81 #[.slice (some ⟨P, o, none⟩) (p0 :: r).length c]) (hP : Blk wr P 25 row.toArray) (hc : (p0 :: r).length ≤ c) (hm : c ≤ maxLen) (ho : o + (p0 :: r).length ≤ row.length)
    (hp : ∀ j p, (p0 :: r)[j]? = some p → ∃ v, row[o + j]? = some v ∧ PieceAt wr B v p) (hkeep : Keep (· = S) w wr) (hG : Blk w2 g 5 cur'.toArray) (hK : Keep (· = g) wr w2) (hgS : g ≠ S) (hgP : g ≠ P) (hSP : S ≠ P)
    (hBg : B ≤ g) (hBP : B ≤ P) (hB : B ≤ w.heap.size) (h1 : PieceAt wr B v1 p1) :
    SrcAt (w2.setCell ⟨P, o, none⟩ v1).drew S P B (p1 :: r) ∧ Blk (w2.setCell ⟨P, o, none⟩ v1).drew g 5 cur'.toArray ∧ Keep (fun k => k = S ∨ k = P ∨ k = g) w (w2.setCell ⟨P, o, none⟩ v1).drew := by
  have hB' : B ≤ wr.heap.size := Nat.le_trans hB hkeep.size
  have hb : Below B wr (w2.setCell ⟨P, o, none⟩ v1).drew := ((hK.below (fun k e => by omega) hB').setCell (p := ⟨P, o, none⟩) hBP _).drew
  refine ⟨⟨some ⟨P, o, none⟩, c, o, row.set o v1, ?_, ?_, by simpa using hc, hm, by simpa using ho, fun _ => rfl, fun j p hj => ?_⟩, ?_, ?_⟩
  · exact ((hS.keep hK (Ne.symm hgS)).far (p := ⟨P, o, none⟩) hSP _)
  · have := (hP.keep hK (Ne.symm hgP)).set_ o v1
    exact (show Blk (w2.setCell ⟨P, o, none⟩ v1) P 25 (row.set o v1).toArray by simpa using this)
  · rcases j with _ | j
    · simp at hj
      subst hj
      exact ⟨v1, by rw [Nat.add_zero, List.getElem?_set_self (by simp at ho; omega)], h1.below hb⟩
    · obtain ⟨v, hv, hpc⟩ := hp (j + 1) p (by simpa using hj)
      exact ⟨v, by rw [List.getElem?_set_ne (by omega)]; exact hv, hpc.below hb⟩
  · exact hG.far (p := ⟨P, o, none⟩) hgP _
  · have k1 : Keep (fun k => k = S ∨ k = P ∨ k = g) w wr := hkeep.mono (fun k e => .inl e)
    have k2 : Keep (fun k => k = S ∨ k = P ∨ k = g) wr w2 := hK.mono (fun k e => .inr (.inr e))
    exact ((k1.trans k2).setCell (p := ⟨P, o, none⟩) (.inl (.inr (.inl rfl))) v1).drew

theorem Tryd.size5 : (Tryd.prog.info? 5).map (·.size) = some 1 := by kernel_rfl

set_option maxHeartbeats 1000000 in
/-- Behind the empty pieces: the first piece gives as much as there is room for. -/
theorem src_some (S P B g off m cap : Nat) (cur : List Value) (ps : List (List UInt8)) (q : List UInt8) (rest : List (List UInt8)) (w : World) (hs : SrcAt w S P B ps) (hBS : B ≤ S) (hBP : B ≤ P) (hB : B ≤ w.heap.size) (hd : dropE ps = q :: rest)
    (hg : Blk w g 5 cur.toArray) (hBg : B ≤ g) (hfit : off + m ≤ cur.length) :
    Calls Tryd.prog 100 #[.pointer (some ⟨S, 0, none⟩), .slice (some ⟨g, off, none⟩) m cap] w fun e w' => e = .returned (.tuple #[.int .i64 (Nat.min q.length m : Nat), .nilIface]) ∧ SrcAt w' S P B (q.drop m :: rest) ∧
      Blk w' g 5 (splice cur off (bvs (q.take m))).toArray ∧ Keep (fun k => k = S ∨ k = P ∨ k = g) w w' := by
  have Hd := Lib.hid hd; clear hd
  have hgS : g ≠ S := by obtain ⟨A, c, o, row, h1, h2, _⟩ := hs; exact hg.ne_ h1 (by decide)
  have hgP : g ≠ P := by obtain ⟨A, c, o, row, h1, h2, _⟩ := hs; exact hg.ne_ h2 (by decide)
  have HG := Lib.hid hg; clear hg
  go_enter Tryd.func100, Tryd.ntmps100
  go_wp2
  go_loopg [] ps.length (fun k wr => ∃ ps', ps'.length = k ∧ SrcAt wr S P B ps' ∧ dropE ps' = q :: rest ∧ Keep (· = S) w wr)
  case atStart => exact ⟨ps, rfl, hs, Hd.out, Keep.refl _ _⟩
  case round =>
    obtain ⟨ps', hk, hs', hd', hkeep⟩ := hrel
    have hSP := hs'.ne
    have hs2 := hs'
    obtain ⟨A, c, o, row, hS, hP, hc, hcm, ho, hA, hp⟩ := hs'
    rcases ps' with _ | ⟨_ | ⟨b, q'⟩, r⟩
    · simp [dropE] at hd'
    · have hA' := hA (by simp)
      subst hA'
      obtain ⟨v0, hv0, A0, l0, cp0, rfl, h1, h2, h3, h4⟩ := hp 0 [] rfl
      simp at h3
      subst h3
      have c1 := hS.cell 0
      simp at c1
      have f1 := hS.frozen 0
      have c2 := hP.cell o
      simp at hv0
      simp [hv0] at c2
      have hc1 : (1 : Int) ≤ (c : Int) := by simp at hc; omega
      have hl1 : (1 : Int) ≤ (r.length : Int) + 1 := by omega
      have HK := Lib.hid (And.intro hk (And.intro hs2 hkeep))
      simp at hc ho
      have hskip := Lib.hid (fun A' hA' => SrcAt.skip (A' := A') (by simpa using hS) hP hc hcm ho hp hBS hSP hA')
      have Hd' := Lib.hid hd'
      clear hk hs2 hkeep hS hP hcm ho hA hp hd' Hd hs hBP hB
      go_wp2
      · rename_i h
        subst h
        go_roundg r.length
        case measure => have := HK.out.1; simp at this; omega
        case rel => exact ⟨r, rfl, hskip.out _ (fun h0 => by omega), by simpa [dropE] using Hd'.out, HK.out.2.2.setCell (.inl rfl) _⟩
      · go_roundg r.length
        case measure => have := HK.out.1; simp at this; omega
        case rel => exact ⟨r, rfl, hskip.out _ (fun _ => rfl), by simpa [dropE] using Hd'.out, HK.out.2.2.setCell (.inl rfl) _⟩
    · simp only [dropE, List.cons.injEq] at hd'
      obtain ⟨rfl, rfl⟩ := hd'
      have hA' := hA (by simp)
      subst hA'
      obtain ⟨v0, hv0, A0, l0, cp0, rfl, h1, h2, h3, h4⟩ := hp 0 (b :: q') rfl
      have c1 := hS.cell 0
      simp at c1
      have c2 := hP.cell o
      simp at hv0
      simp [hv0] at c2
      have hl0 : (0 : Int) < (l0 : Int) := by simp at h3; omega
      have hl0' : ((l0 : Int) == 0) = false := by simp; omega
      have hlr : ((r.length : Int) + 1 == 0) = false := by simp; omega
      have hg : Blk wr g 5 cur.toArray := HG.out.keep hkeep hgS
      have hpos : ∃ ad, A0 = some ad ∧ ∀ j v, (bvs ((b :: q').take m))[j]? = some v → wr.cell? (ad.add j) = some v := by
        obtain ⟨ad, e, _, hc'⟩ := h4.2 (by omega)
        refine ⟨ad, e, fun j v hj => hc' j v ?_⟩
        rw [bvs_take, List.getElem?_take] at hj
        split at hj
        · exact hj
        · cases hj
      obtain ⟨cs, hcs⟩ : ∃ cs, cs = bvs ((b :: q').take m) := ⟨_, rfl⟩
      have hlen : cs.length = Nat.min l0 m := by rw [hcs, bvs_length, List.length_take, h3]; exact Nat.min_comm _ _
      have hl1 : cs.length ≤ l0 := by rw [hlen]; exact Nat.min_le_left _ _
      have hl2 : cs.length ≤ m := by rw [hlen]; exact Nat.min_le_right _ _
      have hone : ∀ u ∈ cs, u.oneCell' = true := by rw [hcs]; exact bvs_one _
      rw [← hcs] at hpos
      have hfit' : off + cs.length ≤ cur.length := by omega
      have H1 := Lib.hid hlen; clear hlen
      have H2 := Lib.hid (fun (_ : 0 < cs.length) => And.intro (rfl : some (⟨g, off, none⟩ : Addr) = some ⟨g, off, none⟩) hpos); clear hpos
      have H3 := Lib.hid h3; clear h3
      have H4 := Lib.hid hone; clear hone
      have HH := Lib.hid (And.intro hS (And.intro hP (And.intro hg (And.intro hp (And.intro hkeep (And.intro h4 hcs)))))); clear hS hP hg hp hkeep hs2 hs HG Hd h4 hcs
      go_wp2_with ((with_reducible refine wpList_copy_keep rfl (.tmp 38) (.tmp 44) 25 25 rfl 5 Tryd.underlying25 Tryd.size5 (some ⟨g, off, none⟩) A0 m cap l0 cp0 rfl rfl g off cur 5 HH.out.2.2.1 cs H1.out H2.out hfit' H4.out ?_); intro w2 hG2 hK2)
      have e1 := (hK2.cell (p := ⟨S, 0, none⟩) HH.out.1.lt (Ne.symm hgS)).trans c1
      have e2 := (hK2.cell (p := ⟨P, o, none⟩) HH.out.2.1.lt (Ne.symm hgP)).trans c2
      have hP2 := HH.out.2.1.keep hK2 (Ne.symm hgP)
      have e3 := hP2.frozen o
      have hHG := Lib.hid (And.intro hG2 (And.intro hK2 hP2)); clear hG2 hK2 hP2
      clear c1 c2
      have i0 : (0 : Int) ≤ (cs.length : Int) := by omega
      have i1 : (cs.length : Int) ≤ (l0 : Int) := by omega
      have hcut : ∀ A1, A1 = (if cp0 = cs.length then A0 else A0.map (·.add cs.length)) → PieceAt wr B (.slice A1 (l0 - cs.length) (cp0 - cs.length)) ((b :: q').drop m) := by
        intro A1 hA1
        subst hA1
        have hrd := HH.out.2.2.2.2.2.1.cut hl1 h1
        refine ⟨_, _, _, rfl, by omega, by omega, ?_, ?_⟩
        · rw [List.length_drop, ← H3.out, H1.out]; show l0 - min l0 m = _; omega
        · simp only [Nat.mul_one] at hrd
          rw [bvs_drop]
          have e : List.drop cs.length (bvs (b :: q')) = List.drop m (bvs (b :: q')) := by
            rw [H1.out]
            show List.drop (min l0 m) _ = _
            have hL : (bvs (b :: q')).length = l0 := by rw [bvs_length, H3.out]
            rcases Nat.le_total l0 m with hh | hh
            · rw [Nat.min_eq_left hh, List.drop_eq_nil_of_le (by omega), List.drop_eq_nil_of_le (by omega)]
            · rw [Nat.min_eq_right hh]
          rw [e] at hrd
          exact hrd
      have HC := Lib.hid hcut; clear hcut
      by_cases hcc : cp0 = cs.length
      · go_region
        go_wp2
        go_ret2
        have hf := HC.out A0 (by rw [if_pos hcc])
        have hz : cp0 - cs.length = 0 := by omega
        rw [hz] at hf
        have hcl := src_close HH.out.1 HH.out.2.1 hc hcm ho HH.out.2.2.2.1 HH.out.2.2.2.2.1 hHG.out.1 hHG.out.2.1 hgS hgP hSP hBg hBP hB hf
        refine ⟨?_, hcl.1, ?_, hcl.2.2⟩
        · rw [← H3.out, ← H1.out]; rfl
        · rw [← HH.out.2.2.2.2.2.2]; exact hcl.2.1
      · go_region
        go_wp2
        go_ret2
        have hf := HC.out (A0.map (·.add cs.length)) (by rw [if_neg hcc])
        have hcl := src_close HH.out.1 HH.out.2.1 hc hcm ho HH.out.2.2.2.1 HH.out.2.2.2.2.1 hHG.out.1 hHG.out.2.1 hgS hgP hSP hBg hBP hB hf
        refine ⟨?_, hcl.1, ?_, hcl.2.2⟩
        · rw [← H3.out, ← H1.out]; rfl
        · rw [← HH.out.2.2.2.2.2.2]; exact hcl.2.1
end Go.Proofs.YtancmlapnhccdaaDoor
