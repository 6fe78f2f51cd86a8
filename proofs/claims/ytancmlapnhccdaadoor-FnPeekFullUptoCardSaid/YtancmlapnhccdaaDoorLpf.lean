/- laws.FnPeekFull: the walk. -/
import Derived.Test.YtancmlapnhccdaaDoorPlr
namespace Go.Proofs.YtancmlapnhccdaaDoor
open Go.RowKit

theorem agree_full {r : SR} {s : RS} (h : Agree r s) (n : Int) (hn : ¬ n < 0) (hb : s.buf.length < n.toNat) : (peekM n s).2.2 = 5 ∧ Agree (r.on 0) (peekM n s).1 := by
  simp only [peekM, if_neg hn]
  generalize n.toNat = n at hb
  obtain ⟨hl, he, hok, hd, hlb, hlr, hln⟩ := fill_agree h (cPeek_asks n) (noBack s) (noBack_ok h.ok) rfl rfl rfl
  have hf := (fillW_fills (cPeek_asks n) (noBack s) (noBack_ok h.ok)).1.len
  generalize fillW (cPeek n) (noBack s) = t at hl he hok hd hlb hlr hln hf
  have hnl : t.buf.length < n := by rw [hf]; exact hb
  simp only [peekE, if_pos hnl]
  refine ⟨trivial, Agree.plain (n := 0) hok ?_ he (by have := h.pos; omega) (by rw [hlb]; simp [noBack]) (by rw [hlr]; simp [noBack])⟩
  rw [rest_on, ← hl]; rfl

theorem full_outs (n : Nat) (hn : n ≤ 255) (ps : List (List UInt8)) (t : WS) (m q : Nat) (hm : m = ps.flatten.length) :
    ∃ bs, (runM (newReader (rsize n) ps) t (bares [(4, 256 + (q : Int)), (5, ((m : Nat) : Int) + 1)])).2.2 = [⟨bs, 0, 5⟩, ⟨[], ((m : Nat) : Int), 1⟩] := by
  have hlen : (newReader (rsize n) ps).buf.length = rsize n := zeros_length _
  obtain ⟨h5, ha⟩ := agree_full (agree_new n hn ps) (256 + (q : Int)) (by omega) (by rw [hlen]; unfold rsize; omega)
  have h1 : ¬ ((m : Nat) : Int) + 1 < 0 := by omega
  have h2 : ¬ ((m : Nat) : Int) + 1 = 0 := by omega
  have h3 : (((m : Nat) : Int) + 1).toNat = m + 1 := by omega
  have hr : (((sr0 ps.flatten).on 0).run (bares [(5, ((m : Nat) : Int) + 1)])) = ([⟨[], ((m : Nat) : Int), 1⟩], true) := by
    simp [SR.run, bares, bare, SR.call, sr0, SR.on, h1, h2, h3, SR.rest, ended, ← hm, -List.length_flatten]
  have hx := run_agree (bares [(5, ((m : Nat) : Int) + 1)]) ((sr0 ps.flatten).on 0) _ t ha (by simp [bares, bare, isRd]) (by rw [hr])
  refine ⟨(peekM (256 + (q : Int)) (newReader (rsize n) ps)).2.1, ?_⟩
  have hc : callM (newReader (rsize n) ps) t (bare 4 (256 + (q : Int))) = ((peekM (256 + (q : Int)) (newReader (rsize n) ps)).1, t, ⟨(peekM (256 + (q : Int)) (newReader (rsize n) ps)).2.1, 0, 5⟩) := by
    unfold callM
    rw [if_pos (by simp [bare, isRd])]
    simp [rdCall, bare, h5]
  have hb : bares [(4, 256 + (q : Int)), (5, ((m : Nat) : Int) + 1)] = bare 4 (256 + (q : Int)) :: bares [(5, ((m : Nat) : Int) + 1)] := rfl
  rw [hb]
  simp only [runM, hc]
  rw [hx, hr]

set_option maxRecDepth 100000 in
set_option maxHeartbeats 1000000 in
theorem law14 (E : Nat → Addr) (n : Nat) (hn : n ≤ 255) (A : Option Addr) (c : Nat) (ps : List (List UInt8)) (q : Nat) (hq : q ≤ 65535) (w : World) (hE : Env w w.heap.size E) (ht : Lib.Utf8Tabs 9 10 w) (hp : PiecesAt w w.heap.size A ps) (hroom : Room (ps.flatten.length + 255)) (hl : Room ps.length) :
    Calls Tryd.prog 14 #[.int .u8 (n : Nat), .slice A ps.length c, .int .u16 (q : Nat)] w (LawTrue w) := by
  obtain ⟨m, hm⟩ : ∃ m, m = ps.flatten.length := ⟨_, rfl⟩
  have hmb : m ≤ 1000000000 := by rw [hm]; exact Nat.le_trans (by omega) hroom
  have Hm := Lib.hid hm; clear hm
  have HE := Lib.hid (And.intro hE (And.intro ht (And.intro hp (And.intro hroom hl)))); clear hE hp hroom hl ht
  go_enter Tryd.func14, Tryd.ntmps14
  go_wp2_with fail
  refine (joined22 A c ps w HE.out.2.2.1 (HE.out.2.2.2.1.mono (by omega)) HE.out.2.2.2.2).mono ?_
  rintro e w1 ⟨v1, rfl, hown1, hb1⟩
  rw [← Hm.out] at hown1
  obtain ⟨a1, c1, rfl⟩ := own_slice hown1
  have H1 := Lib.hid (And.intro hown1 hb1); clear hown1 hb1
  have hrun := run_bares E n hn A c ps [(4, 256 + (q : Int)), (5, (m : Int) + 1)] HE.out.1 HE.out.2.1 HE.out.2.2.1 HE.out.2.2.2.1 HE.out.2.2.2.2 H1.out.2 (by simp; omega) (by simp)
  obtain ⟨bs, hbs⟩ := full_outs n hn ps ⟨zeros (wsize n), 0, []⟩ m q Hm.out
  rw [hbs] at hrun
  clear hbs
  generalize (runM (newReader (rsize n) ps) ⟨zeros (wsize n), 0, []⟩ (bares [(4, 256 + (q : Int)), (5, (m : Int) + 1)])).2.1.got = got at hrun
  have HR := Lib.hid hrun; clear hrun
  have hw1 := IntWalk.wrap64_in (q : Int) (by omega)
  have hw2 := IntWalk.wrap64_in (256 + (q : Int)) (by omega)
  have hw3 := IntWalk.wrap64_in ((m : Int) + 1) (by omega)
  go_wp2_with fail
  refine HR.out.mono ?_
  rintro e w2 ⟨a, c2, gv, flat, rfl, hown, houts, hgv, hb2⟩
  obtain ⟨g, rfl⟩ := own_some hown (by simp)
  obtain ⟨A0, k0, x00, x01, x02, _⟩ := out_cells hown houts 0 _ rfl
  obtain ⟨A1, k1, x10, x11, x12, _⟩ := out_cells hown houts 1 _ rfl
  have H2 := Lib.hid (And.intro hown (And.intro houts (And.intro hgv hb2))); clear hown houts hgv hb2
  simp only [List.length_cons, List.length_nil, Nat.zero_mul, Nat.zero_add, Nat.one_mul, Nat.reduceAdd] at x00 x01 x02 x10 x11 x12 ⊢
  go_wp2_with fail
  go_ret
  exact ⟨rfl, law_below H1.out.2 H2.out.2.2.2⟩
end Go.Proofs.YtancmlapnhccdaaDoor
