/- bufio.Reader in memory, and its method fill. -/
import Derived.Test.YtancmlapnhccdaaDoorSrc
import Derived.Deep.DeepCutAuto
import Derived.Deep.RegionLaw
import Derived.Deep.RegionWith
import Derived.Deep.RegionHeld3
import Derived.StillTailTactics
import Derived.IntWalk
namespace Go.Proofs.YtancmlapnhccdaaDoor
open Go.RowKit

/-- where a reader lies: its struct, its buffer, the source and its row of pieces; the pieces lie below B -/
structure RL where
  R : Nat
  RB : Nat
  S : Nat
  P : Nat
  B : Nat

def rdX (L : RL) : Nat → Prop := fun k => k = L.R ∨ k = L.RB ∨ k = L.S ∨ k = L.P

/-- the error that is pending -/
def eofV (E : Nat → Addr) (b : Bool) : Value := if b then sent (E 0) else .nilIface

def rdCells (E : Nat → Addr) (L : RL) (s : RS) : Array Value :=
  #[.slice (some ⟨L.RB, 0, none⟩) s.buf.length s.buf.length, .iface 79 (.pointer (some ⟨L.S, 0, none⟩)), .int .i64 (s.r : Nat), .int .i64 (s.w : Nat), eofV E s.eof, .int .i64 s.lb, .int .i64 s.lr]

structure RdrAt (w : World) (E : Nat → Addr) (L : RL) (s : RS) : Prop where
  blk : Blk w L.R 112 (rdCells E L s)
  buf : Blk w L.RB 5 (bvs s.buf).toArray
  src : SrcAt w L.S L.P L.B s.src
  ok : s.Ok
  bR : L.B ≤ L.R
  bRB : L.B ≤ L.RB
  bS : L.B ≤ L.S
  bP : L.B ≤ L.P
  size : L.B ≤ w.heap.size
  env : Env w L.B E

theorem rdX_ge {w : World} {E : Nat → Addr} {L : RL} {s : RS} (h : RdrAt w E L s) : ∀ k, rdX L k → L.B ≤ k := by
  rintro k (rfl | rfl | rfl | rfl)
  · exact h.bR
  · exact h.bRB
  · exact h.bS
  · exact h.bP

theorem RdrAt.neRB {w : World} {E : Nat → Addr} {L : RL} {s : RS} (h : RdrAt w E L s) : L.R ≠ L.RB := h.blk.ne_ h.buf (by decide)
theorem RdrAt.neS {w : World} {E : Nat → Addr} {L : RL} {s : RS} (h : RdrAt w E L s) : L.R ≠ L.S := by
  obtain ⟨A, c, o, row, h1, h2, _⟩ := h.src; exact h.blk.ne_ h1 (by decide)
theorem RdrAt.neP {w : World} {E : Nat → Addr} {L : RL} {s : RS} (h : RdrAt w E L s) : L.R ≠ L.P := by
  obtain ⟨A, c, o, row, h1, h2, _⟩ := h.src; exact h.blk.ne_ h2 (by decide)
theorem RdrAt.neBS {w : World} {E : Nat → Addr} {L : RL} {s : RS} (h : RdrAt w E L s) : L.RB ≠ L.S := by
  obtain ⟨A, c, o, row, h1, h2, _⟩ := h.src; exact h.buf.ne_ h1 (by decide)
theorem RdrAt.neBP {w : World} {E : Nat → Addr} {L : RL} {s : RS} (h : RdrAt w E L s) : L.RB ≠ L.P := by
  obtain ⟨A, c, o, row, h1, h2, _⟩ := h.src; exact h.buf.ne_ h2 (by decide)

theorem SrcAt.keep {X : Nat → Prop} {w w' : World} {S P B : Nat} {ps : List (List UInt8)} (h : SrcAt w S P B ps) (hk : Keep X w w') (hS : ¬ X S) (hP : ¬ X P) (hB : B ≤ w.heap.size) (hX : ∀ k, X k → B ≤ k) : SrcAt w' S P B ps := by
  obtain ⟨A, c, o, row, h1, h2, h3, h4, h5, h6, h7⟩ := h
  refine ⟨A, c, o, row, h1.keep hk hS, h2.keep hk hP, h3, h4, h5, h6, fun j p hj => ?_⟩
  obtain ⟨v, hv, hp⟩ := h7 j p hj
  exact ⟨v, hv, hp.below (hk.below hX hB)⟩

/-- what is not the reader's may change -/
theorem RdrAt.keep {X : Nat → Prop} {w w' : World} {E : Nat → Addr} {L : RL} {s : RS} (h : RdrAt w E L s) (hk : Keep X w w') (hX : ∀ k, X k → L.B ≤ k) (hn : ∀ k, X k → ¬ rdX L k) : RdrAt w' E L s where
  blk := h.blk.keep hk (fun hx => hn _ hx (.inl rfl))
  buf := h.buf.keep hk (fun hx => hn _ hx (.inr (.inl rfl)))
  src := h.src.keep hk (fun hx => hn _ hx (.inr (.inr (.inl rfl)))) (fun hx => hn _ hx (.inr (.inr (.inr rfl)))) h.size hX
  ok := h.ok
  bR := h.bR
  bRB := h.bRB
  bS := h.bS
  bP := h.bP
  size := Nat.le_trans h.size hk.size
  env := h.env.keep hk hX h.size

/-- the fields of a reader, each as a fact on memory -/
theorem RdrAt.cells {w : World} {E : Nat → Addr} {L : RL} {s : RS} (h : RdrAt w E L s) :
    w.cell? ⟨L.R, 0, none⟩ = some (.slice (some ⟨L.RB, 0, none⟩) s.buf.length s.buf.length) ∧ w.cell? ⟨L.R, 1, none⟩ = some (.iface 79 (.pointer (some ⟨L.S, 0, none⟩))) ∧
    w.cell? ⟨L.R, 2, none⟩ = some (.int .i64 (s.r : Nat)) ∧ w.cell? ⟨L.R, 3, none⟩ = some (.int .i64 (s.w : Nat)) ∧ w.cell? ⟨L.R, 4, none⟩ = some (eofV E s.eof) ∧
    w.cell? ⟨L.R, 5, none⟩ = some (.int .i64 s.lb) ∧ w.cell? ⟨L.R, 6, none⟩ = some (.int .i64 s.lr) :=
  ⟨h.blk.cell 0, h.blk.cell 1, h.blk.cell 2, h.blk.cell 3, h.blk.cell 4, h.blk.cell 5, h.blk.cell 6⟩
theorem RdrAt.free {w : World} {E : Nat → Addr} {L : RL} {s : RS} (h : RdrAt w E L s) (i : Nat) : w.frozen? ⟨L.R, i, none⟩ = false := h.blk.frozen i

/-- where the part of a row from place k on begins: at k = cap the row's own beginning -/
def cutA (g n k : Nat) : Option Addr := if n = k then some ⟨g, 0, none⟩ else some ⟨g, k, none⟩
theorem cutA_pos {g n k : Nat} (h : k < n) : cutA g n k = some ⟨g, k, none⟩ := if_neg (by omega)

theorem slice_lh (g n lo hi : Nat) (h1 : lo ≤ hi) (h2 : hi ≤ n) (w : World) :
    (Instr.slice 25 (.slice (some ⟨g, 0, none⟩) n n) (some (.int .i64 (lo : Nat))) (some (.int .i64 (hi : Nat))) none).run Tryd.prog w = .ok (.slice (cutA g n lo) (hi - lo) (n - lo)) w := by
  have i1 : (lo : Int) ≤ (hi : Int) := by omega
  have i2 : (hi : Int) ≤ (n : Int) := by omega
  by_cases h : n = lo
  · have : hi = lo := by omega
    subst this
    subst h
    simp [go_sem, cutA]
  · have h' : ¬ lo = n := fun e => h e.symm
    simp [go_sem, cutA, i1, i2, h]
theorem slice_l (g n lo : Nat) (h1 : lo ≤ n) (w : World) :
    (Instr.slice 25 (.slice (some ⟨g, 0, none⟩) n n) (some (.int .i64 (lo : Nat))) none none).run Tryd.prog w = .ok (.slice (cutA g n lo) (n - lo) (n - lo)) w := by
  have i1 : (lo : Int) ≤ (n : Int) := by omega
  by_cases h : n = lo
  · subst h
    simp [go_sem, cutA]
  · simp [go_sem, cutA, i1, h]

theorem RdrAt.upd {w w' : World} {E : Nat → Addr} {L : RL} {s s' : RS} (h : RdrAt w E L s) (hblk : Blk w' L.R 112 (rdCells E L s')) (hbuf : Blk w' L.RB 5 (bvs s'.buf).toArray) (hsrc : SrcAt w' L.S L.P L.B s'.src) (ok : s'.Ok) (hk : Keep (rdX L) w w') : RdrAt w' E L s' where
  blk := hblk
  buf := hbuf
  src := hsrc
  ok := ok
  bR := h.bR
  bRB := h.bRB
  bS := h.bS
  bP := h.bP
  size := Nat.le_trans h.size hk.size
  env := h.env.keep hk (rdX_ge h) h.size

theorem RdrAt.drewN {w : World} {E : Nat → Addr} {L : RL} {s : RS} (h : RdrAt w E L s) (n : Nat) : RdrAt (w.drewN n) E L s :=
  h.keep ((Keep.refl (fun _ => False) w).drewN n) (fun _ h => h.elim) (fun _ h => h.elim)
theorem RdrAt.drew {w : World} {E : Nat → Addr} {L : RL} {s : RS} (h : RdrAt w E L s) : RdrAt w.drew E L s :=
  h.keep ((Keep.refl (fun _ => False) w).drew) (fun _ h => h.elim) (fun _ h => h.elim)

/-- behind the slide -/
def Slid (E : Nat → Addr) (L : RL) (s : RS) (w w' : World) : Prop := RdrAt w' E L (slide s) ∧ Keep (rdX L) w w'

theorem wrap_sub (a b : Nat) (h : b ≤ a) (ha : a ≤ 1000000) : wrap64 ((a : Int) - (b : Int)) = ((a - b : Nat) : Int) := by
  rw [IntWalk.wrap64_in _ (by omega)]; omega

theorem slid_close {w w2 : World} {E : Nat → Addr} {L : RL} {s : RS} (h : RdrAt w E L s) (hr : ¬ s.r = 0) (hG : Blk w2 L.RB 5 (splice (bvs s.buf) 0 (bvs ((s.buf.drop s.r).take (s.w - s.r)))).toArray)
    (hK : Keep (· = L.RB) w.drew w2) (hR : Blk w2 L.R 112 (rdCells E L s)) :
    Slid E L s w ((w2.setCell ⟨L.R, 3, none⟩ (.int .i64 (wrap64 ((s.w : Int) - (s.r : Int))))).setCell ⟨L.R, 2, none⟩ (.int .i64 0)).drew := by
  have hk0 : Keep (rdX L) w w2 := (Keep.refl (rdX L) w).drew.trans (hK.mono (fun k e => .inr (.inl e)))
  have hk : Keep (rdX L) w ((w2.setCell ⟨L.R, 3, none⟩ (.int .i64 (wrap64 ((s.w : Int) - (s.r : Int))))).setCell ⟨L.R, 2, none⟩ (.int .i64 0)).drew :=
    ((hk0.setCell (p := ⟨L.R, 3, none⟩) (.inl (.inl rfl)) _).setCell (p := ⟨L.R, 2, none⟩) (.inl (.inl rfl)) _).drew
  have hs : slide s = { s with buf := splice s.buf 0 ((s.buf.drop s.r).take (s.w - s.r)), r := 0, w := s.w - s.r } := by unfold slide; rw [if_pos (by omega)]
  refine ⟨h.upd ?_ ?_ ?_ (slide_ok s h.ok) hk, hk⟩
  · have hl := slide_len s h.ok
    rw [hs] at hl
    have := (hR.set_ 3 (.int .i64 (wrap64 ((s.w : Int) - (s.r : Int))))).set_ 2 (.int .i64 0)
    rw [wrap_sub s.w s.r h.ok.rw (by have := h.ok.wn; have := h.ok.hi; omega)] at this
    rw [wrap_sub s.w s.r h.ok.rw (by have := h.ok.wn; have := h.ok.hi; omega)]
    have e : rdCells E L (slide s) = ((rdCells E L s).setIfInBounds 3 (.int .i64 ((s.w - s.r : Nat) : Int))).setIfInBounds 2 (.int .i64 0) := by
      rw [hs]; simp only [rdCells, hl]; rfl
    rw [e]
    exact this
  · rw [hs, ← bvs_splice]
    exact (hG.far (p := ⟨L.R, 3, none⟩) (Ne.symm h.neRB) _).far (p := ⟨L.R, 2, none⟩) (Ne.symm h.neRB) _
  · rw [slide_src]
    have k1 : Keep (fun k => k = L.R ∨ k = L.RB) w ((w2.setCell ⟨L.R, 3, none⟩ (.int .i64 (wrap64 ((s.w : Int) - (s.r : Int))))).setCell ⟨L.R, 2, none⟩ (.int .i64 0)).drew :=
      ((((Keep.refl _ w).drew.trans (hK.mono (fun k e => .inr e))).setCell (p := ⟨L.R, 3, none⟩) (.inl (.inl rfl)) _).setCell (p := ⟨L.R, 2, none⟩) (.inl (.inl rfl)) _).drew
    refine h.src.keep k1 ?_ ?_ h.size ?_
    · rintro (e | e)
      · exact h.neS e.symm
      · exact h.neBS e.symm
    · rintro (e | e)
      · exact h.neP e.symm
      · exact h.neBP e.symm
    · rintro k (rfl | rfl)
      · exact h.bR
      · exact h.bRB

theorem wrap_nat (a : Nat) (ha : a ≤ 1000000) : wrap64 (a : Int) = (a : Int) := IntWalk.wrap64_in _ (by omega)
theorem wrap_add (a b : Nat) (ha : a + b ≤ 1000000) : wrap64 ((a : Int) + (b : Int)) = ((a + b : Nat) : Int) := by
  rw [IntWalk.wrap64_in _ (by omega)]; omega

/-- the source is at its end -/
theorem fill_end {w w5 : World} {E : Nat → Addr} {L : RL} {t : RS} (h : RdrAt w E L t) (hs : SrcAt w5 L.S L.P L.B []) (hk : Keep (· = L.S) w w5) (hR : Blk w5 L.R 112 (rdCells E L t)) (hd : dropE t.src = []) :
    RdrAt ((w5.setCell ⟨L.R, 3, none⟩ (.int .i64 (wrap64 (t.w : Int)))).setCell ⟨L.R, 4, none⟩ (sent (E 0))) E L (fillT t) ∧ Keep (rdX L) w ((w5.setCell ⟨L.R, 3, none⟩ (.int .i64 (wrap64 (t.w : Int)))).setCell ⟨L.R, 4, none⟩ (sent (E 0))) := by
  have hk0 : Keep (rdX L) w w5 := hk.mono (fun k e => .inr (.inr (.inl e)))
  have hk' : Keep (rdX L) w ((w5.setCell ⟨L.R, 3, none⟩ (.int .i64 (wrap64 (t.w : Int)))).setCell ⟨L.R, 4, none⟩ (sent (E 0))) :=
    (hk0.setCell (p := ⟨L.R, 3, none⟩) (.inl (.inl rfl)) _).setCell (p := ⟨L.R, 4, none⟩) (.inl (.inl rfl)) _
  have hf : fillT t = { t with eof := true, src := [] } := by unfold fillT; rw [hd]
  have hwr := wrap_nat t.w (by have := h.ok.wn; have := h.ok.hi; omega)
  refine ⟨h.upd ?_ ?_ ?_ (fillT_ok t h.ok) hk', hk'⟩
  · rw [hf, hwr]
    exact (hR.set_ 3 (.int .i64 (t.w : Nat))).set_ 4 (sent (E 0))
  · rw [hf]
    exact ((h.buf.keep hk h.neBS).far (p := ⟨L.R, 3, none⟩) (Ne.symm h.neRB) _).far (p := ⟨L.R, 4, none⟩) (Ne.symm h.neRB) _
  · rw [hf]
    have k1 : Keep (· = L.R) w5 ((w5.setCell ⟨L.R, 3, none⟩ (.int .i64 (wrap64 (t.w : Int)))).setCell ⟨L.R, 4, none⟩ (sent (E 0))) :=
      ((Keep.refl (· = L.R) w5).setCell (p := ⟨L.R, 3, none⟩) (.inl rfl) _).setCell (p := ⟨L.R, 4, none⟩) (.inl rfl) _
    exact hs.keep k1 (Ne.symm h.neS) (Ne.symm h.neP) (Nat.le_trans h.size hk.size) (fun k e => by rw [e]; exact h.bR)

/-- the source gave some bytes -/
theorem fill_some {w w5 : World} {E : Nat → Addr} {L : RL} {t : RS} {q : List UInt8} {rest : List (List UInt8)} (h : RdrAt w E L t) (hs : SrcAt w5 L.S L.P L.B (q.drop (t.buf.length - t.w) :: rest))
    (hb : Blk w5 L.RB 5 (splice (bvs t.buf) t.w (bvs (q.take (t.buf.length - t.w)))).toArray) (hk : Keep (fun k => k = L.S ∨ k = L.P ∨ k = L.RB) w w5) (hR : Blk w5 L.R 112 (rdCells E L t)) (hd : dropE t.src = q :: rest) :
    RdrAt (w5.setCell ⟨L.R, 3, none⟩ (.int .i64 ((t.w : Int) + (Nat.min q.length (t.buf.length - t.w) : Nat)))) E L (fillT t) ∧ Keep (rdX L) w (w5.setCell ⟨L.R, 3, none⟩ (.int .i64 ((t.w : Int) + (Nat.min q.length (t.buf.length - t.w) : Nat)))) := by
  have hk0 : Keep (rdX L) w w5 := hk.mono (fun k e => by rcases e with e | e | e; exact .inr (.inr (.inl e)); exact .inr (.inr (.inr e)); exact .inr (.inl e))
  have hk' : Keep (rdX L) w (w5.setCell ⟨L.R, 3, none⟩ (.int .i64 ((t.w : Int) + (Nat.min q.length (t.buf.length - t.w) : Nat)))) := hk0.setCell (p := ⟨L.R, 3, none⟩) (.inl (.inl rfl)) _
  have hok := fillT_ok t h.ok
  have hf : fillT t = { t with buf := splice t.buf t.w (q.take (t.buf.length - t.w)), w := t.w + Nat.min q.length (t.buf.length - t.w), src := q.drop (t.buf.length - t.w) :: rest } := by unfold fillT; rw [hd]
  have hm : Nat.min q.length (t.buf.length - t.w) ≤ t.buf.length - t.w := Nat.min_le_right _ _
  have hwr : ((t.w : Int) + (Nat.min q.length (t.buf.length - t.w) : Nat)) = ((t.w + Nat.min q.length (t.buf.length - t.w) : Nat) : Int) := by omega
  have hl : (splice t.buf t.w (q.take (t.buf.length - t.w))).length = t.buf.length := length_splice _ _ _ (by have := h.ok.wn; simp; omega)
  refine ⟨h.upd ?_ ?_ ?_ hok hk', hk'⟩
  · rw [hf, hwr]
    have e : rdCells E L { t with buf := splice t.buf t.w (q.take (t.buf.length - t.w)), w := t.w + Nat.min q.length (t.buf.length - t.w), src := q.drop (t.buf.length - t.w) :: rest } = (rdCells E L t).setIfInBounds 3 (.int .i64 ((t.w + Nat.min q.length (t.buf.length - t.w) : Nat) : Int)) := by
      simp only [rdCells, hl]; rfl
    rw [e]
    exact hR.set_ 3 _
  · rw [hf, ← bvs_splice]
    exact hb.far (p := ⟨L.R, 3, none⟩) (Ne.symm h.neRB) _
  · rw [hf]
    have k1 : Keep (· = L.R) w5 (w5.setCell ⟨L.R, 3, none⟩ (.int .i64 ((t.w : Int) + (Nat.min q.length (t.buf.length - t.w) : Nat)))) := (Keep.refl (· = L.R) w5).setCell (p := ⟨L.R, 3, none⟩) (.inl rfl) _
    exact hs.keep k1 (Ne.symm h.neS) (Ne.symm h.neP) (Nat.le_trans h.size hk.size) (fun k e => by rw [e]; exact h.bR)

theorem meth_read (S : Nat) (w : World) : (method 265 79 (.pointer (some ⟨S, 0, none⟩)) "Read").run Tryd.prog w = .ok (100, .pointer (some ⟨S, 0, none⟩)) w := by kernel_rfl

set_option maxRecDepth 100000 in
set_option maxHeartbeats 1000000 in
theorem fill60 (E : Nat → Addr) (L : RL) (s : RS) (w : World) (h : RdrAt w E L s) (hnf : s.w - s.r < s.buf.length) :
    Calls Tryd.prog 60 #[.pointer (some ⟨L.R, 0, none⟩)] w fun e w' => e = .returned (.tuple #[]) ∧ RdrAt w' E L (fillM s) ∧ Keep (rdX L) w w' := by
  obtain ⟨c0, c1, c2, c3, c4, c5, c6⟩ := h.cells
  go_enter Tryd.func60, Tryd.ntmps60
  go_upto_if 9 with (fail)
  go_cut [] (fun wx => Slid E L s w wx)
  case first =>
    by_cases hr : s.r = 0
    · have hr' : ¬ ((0 : Int) < (s.r : Int)) := by omega
      have Hr := Lib.hid hr; clear hr
      go_wp2_with fail
      go_meet
      have hs : slide s = s := by unfold slide; rw [if_neg (by have := Hr.out; omega)]
      exact ⟨by rw [hs]; exact h, Keep.refl _ _⟩
    · have hr' : (0 : Int) < (s.r : Int) := by omega
      have hrw := h.ok.rw
      have hwn := h.ok.wn
      have i1 : (s.r : Int) ≤ (s.w : Int) := by omega
      have i2 : (s.w : Int) ≤ (s.buf.length : Int) := by omega
      obtain ⟨cs, hcs⟩ : ∃ cs, cs = bvs ((s.buf.drop s.r).take (s.w - s.r)) := ⟨_, rfl⟩
      have hlen : cs.length = Nat.min (s.w - s.r) s.buf.length := by rw [hcs, bvs_length]; simp; show _ = min _ _; omega
      have hone : ∀ u ∈ cs, u.oneCell' = true := by rw [hcs]; exact bvs_one _
      have hfit : 0 + cs.length ≤ (bvs s.buf).length := by rw [hlen, bvs_length, Nat.zero_add]; exact Nat.min_le_right _ _
      have hsrc : ∀ j v, cs[j]? = some v → w.cell? ((⟨L.RB, s.r, none⟩ : Addr).add j) = some v := by
        intro j v hj
        rw [add_mk, h.buf.cell]
        rw [hcs, bvs_take, bvs_drop, List.getElem?_take, List.getElem?_drop] at hj
        split at hj
        · simpa using hj
        · cases hj
      have HS := Lib.hid hsrc; clear hsrc
      have HL := Lib.hid (And.intro hlen (And.intro hone (And.intro hfit hcs))); clear hlen hone hfit hcs
      have hbuf := Lib.hid h.buf
      have f2 := h.free 2
      have f3 := h.free 3
      have Hh := Lib.hid h; clear h
      have Hr := Lib.hid hr; clear hr
      have hsl := slice_lh L.RB s.buf.length s.r s.w hrw hwn
      have hcu : 0 < cs.length → cutA L.RB s.buf.length s.r = some ⟨L.RB, s.r, none⟩ := fun h0 => cutA_pos (by have e := HL.out.1; have : Nat.min (s.w - s.r) s.buf.length ≤ s.w - s.r := Nat.min_le_left _ _; omega)
      have HC := Lib.hid hcu; clear hcu
      go_wp2_with fail
      refine wp_region_still_tail 17 (by kernel_rfl) (by kernel_rfl) ?_
      simp only [List.take_succ_cons, List.take_zero, List.drop_succ_cons, List.drop_zero]
      change wpStill _ _ w.drew (fun a' => wpList _ _ _ _ a' w.drew) _ _
      repeat still_step
      refine wpStill_nil ?_
      refine wpList_copy_keep rfl (.tmp 13) (.tmp 26) 25 25 rfl 5 Tryd.underlying25 Tryd.size5 (some ⟨L.RB, 0, none⟩) (cutA L.RB s.buf.length s.r) s.buf.length s.buf.length (s.w - s.r) (s.buf.length - s.r) rfl rfl L.RB 0 (bvs s.buf) 5 (Blk.drew hbuf.out) cs HL.out.1 (fun h0 => ⟨rfl, _, HC.out h0, HS.out⟩) HL.out.2.2.1 HL.out.2.1 ?_
      intro w2 hG2 hK2
      go_simp
      have hR2 := (Blk.drew Hh.out.blk).keep hK2 Hh.out.neRB
      have d2 : w2.cell? ⟨L.R, 2, none⟩ = some (.int .i64 (s.r : Nat)) := hR2.cell 2
      have d3 : w2.cell? ⟨L.R, 3, none⟩ = some (.int .i64 (s.w : Nat)) := hR2.cell 3
      have g2 := hR2.frozen 2
      have g3 := hR2.frozen 3
      have H2 := Lib.hid (And.intro hG2 (And.intro hK2 hR2)); clear hG2 hK2 hR2
      clear c0 c1 c2 c3 c4 c5 c6 f2 f3 hsl
      go_wp2_with fail
      go_region
      go_wp2_with fail
      go_meet
      have hG := H2.out.1
      rw [HL.out.2.2.2] at hG
      exact slid_close Hh.out Hr.out hG H2.out.2.1 H2.out.2.2
  case rest =>
    obtain ⟨h2, hk2⟩ := hcut
    have htr := slide_r s
    have htw := slide_w s
    have htl := slide_len s h.ok
    have hfin : fillM s = fillT (slide s) := rfl
    have Hfin := Lib.hid hfin; clear hfin
    rw [← htw, ← htl] at hnf
    clear c0 c1 c2 c3 c4 c5 c6 h
    generalize slide s = t at *
    have Ht := Lib.hid htr; clear htr htw htl
    obtain ⟨c0, c1, c2, c3, c4, c5, c6⟩ := h2.cells
    have hlt : (t.w : Int) < (t.buf.length : Int) := by omega
    have hle : t.w ≤ t.buf.length := by omega
    have hsl := slice_l L.RB t.buf.length t.w hle
    have hA := cutA_pos (g := L.RB) hnf
    have Hk := Lib.hid hk2; clear hk2
    have H2 := Lib.hid h2; clear h2
    have hmt := fun w => meth_read L.S w
    go_wp2_with fail
    go_quiet (fail)
    go_wp2_with fail
    refine wp_loop_rounds 1 ?_
    rw [rounds_succ]
    go_wp2_with fail
    have h3 := H2.out.drewN nq
    have hk3 := Hk.out.drewN nq
    clear c0 c1 c2 c3 c4 c5 c6 H2 Hk
    generalize wc.drewN nq = w3 at *
    have k0 := Lib.hid (And.intro h3.cells.1 (And.intro h3.cells.2.1 h3.cells.2.2.2.1))
    have H3 := Lib.hid (And.intro h3 hk3); clear h3 hk3
    rcases hd : dropE t.src with _ | ⟨q, rest⟩
    · have h4 := H3.out.1.drew
      have H4 := Lib.hid (fun v => src_end L.S L.P L.B E t.src v w3.drew h4.env h4.src h4.bS h4.size hd); clear h4
      have Hd := Lib.hid hd; clear hd
      go_region_held3 (fun w' => w'.cell? ⟨L.R, 0, none⟩ = some (.slice (some ⟨L.RB, 0, none⟩) t.buf.length t.buf.length) ∧ w'.cell? ⟨L.R, 1, none⟩ = some (.iface 79 (.pointer (some ⟨L.S, 0, none⟩))) ∧ w'.cell? ⟨L.R, 3, none⟩ = some (.int .i64 (t.w : Nat))) (first | exact k0.out | exact k1.out)
        (first | (go_at_call 100; refine (H4.out _).mono ?_; rintro e w5 ⟨rfl, hs5, hk5⟩; have hR5 := H3.out.1.drew.blk.keep hk5 H3.out.1.neS; have k1 := Lib.hid (And.intro (hR5.cell 0) (And.intro (hR5.cell 1) (hR5.cell 3))); have H5 := Lib.hid (And.intro hs5 (And.intro hk5 hR5)); clear hs5 hk5 hR5 k0))
      have c3 : w5.cell? ⟨L.R, 3, none⟩ = some (.int .i64 (t.w : Nat)) := H5.out.2.2.cell 3
      have c4 : w5.cell? ⟨L.R, 4, none⟩ = some (eofV E t.eof) := H5.out.2.2.cell 4
      have g3 := H5.out.2.2.frozen 3
      have g4 := H5.out.2.2.frozen 4
      clear k1
      go_wp2_with fail
      refine bodyPost_ret (results_none rfl _ _ _) rfl ?_
      have hc := fill_end H3.out.1.drew H5.out.1 H5.out.2.1 H5.out.2.2 Hd.out
      exact ⟨rfl, by rw [Hfin.out]; exact hc.1, H3.out.2.drew.trans hc.2⟩
    · have h4 := H3.out.1.drew
      have H4 := Lib.hid (src_some L.S L.P L.B L.RB t.w (t.buf.length - t.w) (t.buf.length - t.w) (bvs t.buf) t.src q rest w3.drew h4.src h4.bS h4.bP h4.size hd h4.buf h4.bRB (by rw [bvs_length]; omega)); clear h4
      have hqp : 0 < q.length := List.length_pos_iff.2 (dropE_head hd)
      have hmp : 0 < Nat.min q.length (t.buf.length - t.w) := by show 0 < min _ _; omega
      have hm1 : Nat.min q.length (t.buf.length - t.w) ≤ 255 := by have := H3.out.1.ok.hi; show min _ _ ≤ _; omega
      have hw1 : t.w ≤ 255 := by have := H3.out.1.ok.hi; omega
      have Hd := Lib.hid hd; clear hd
      go_region_held3 (fun w' => w'.cell? ⟨L.R, 0, none⟩ = some (.slice (some ⟨L.RB, 0, none⟩) t.buf.length t.buf.length) ∧ w'.cell? ⟨L.R, 1, none⟩ = some (.iface 79 (.pointer (some ⟨L.S, 0, none⟩))) ∧ w'.cell? ⟨L.R, 3, none⟩ = some (.int .i64 (t.w : Nat))) (first | exact k0.out | exact k1.out)
        (first | (go_at_call 100; refine H4.out.mono ?_; rintro e w5 ⟨rfl, hs5, hb5, hk5⟩; have hR5 := H3.out.1.drew.blk.keep hk5 (by rintro (e | e | e); exact H3.out.1.neS e; exact H3.out.1.neP e; exact H3.out.1.neRB e); have k1 := Lib.hid (And.intro (hR5.cell 0) (And.intro (hR5.cell 1) (hR5.cell 3))); have H5 := Lib.hid (And.intro hs5 (And.intro hb5 (And.intro hk5 hR5))); clear hs5 hk5 hR5 hb5 k0))
      have c3 : w5.cell? ⟨L.R, 3, none⟩ = some (.int .i64 (t.w : Nat)) := H5.out.2.2.2.cell 3
      have g3 := H5.out.2.2.2.frozen 3
      clear k1
      go_wp2_with fail
      refine bodyPost_ret (results_none rfl _ _ _) rfl ?_
      have hc := fill_some H3.out.1.drew H5.out.1 H5.out.2.1 H5.out.2.2.1 H5.out.2.2.2 Hd.out
      exact ⟨rfl, by rw [Hfin.out]; exact hc.1, H3.out.2.drew.trans hc.2⟩
end Go.Proofs.YtancmlapnhccdaaDoor
