/- laws.FnApart: the walk. -/
import Derived.Test.YtancmlapnhccdaaDoorObs
namespace Go.Proofs.YtancmlapnhccdaaDoor
open Go.RowKit

theorem filter_take (p : CallD → Bool) (cs : List CallD) (i : Nat) (h : i < cs.length) : (cs.take (i + 1)).filter p = (cs.take i).filter p ++ (if p cs[i] then [cs[i]] else []) := by
  rw [List.take_add_one, List.getElem?_eq_getElem h, List.filter_append]
  simp only [Option.toList_some, List.filter_cons, List.filter_nil]
theorem filter_len (p : CallD → Bool) (cs : List CallD) : callsLen (cs.filter p) ≤ callsLen cs := by
  induction cs with
  | nil => simp [callsLen]
  | cons c cs ih =>
    rw [List.filter_cons]
    have h3 : callsLen (c :: cs) = (c.bytes.length + 4) + callsLen cs := by simp [callsLen]
    split
    · have h4 : callsLen (c :: cs.filter p) = (c.bytes.length + 4) + callsLen (cs.filter p) := by simp [callsLen]
      omega
    · omega
/-- a row of calls of one's own, behind a step that may have put one call more there -/
structure CRow (N B : Nat) (wr : World) (v : Value) (cs : List CallD) (vs : List Value) : Prop where
  own : wr.ownsRow N 34 4 v cs.length vs
  flat : CallsFlat wr B vs cs
theorem CRow.keep {N B : Nat} {X : Nat → Prop} {w w' : World} {v : Value} {cs : List CallD} {vs : List Value} (h : CRow N B w v cs vs) (hk : Keep X w w') (hv : ∀ k, v.ownBlock = some k → ¬ X k) (hX : ∀ k, X k → B ≤ k) (hB : B ≤ w.heap.size) : CRow N B w' v cs vs :=
  ⟨own_keep h.own hk hv, h.flat.below (hk.below hX hB)⟩

def Ap1 (cs : List CallD) (w : World) (k : Nat) (t7 t8 t25 : Value) (wr : World) : Prop :=
  ∃ i a1 c1 a2 c2 vs1 vs2, i ≤ cs.length ∧ t25 = .int .i64 ((i : Nat) : Int) ∧ t7 = .slice a1 ((cs.take i).filter rdB).length c1 ∧ t8 = .slice a2 ((cs.take i).filter wrB).length c2 ∧
    CRow w.heap.size w.heap.size wr (.slice a1 ((cs.take i).filter rdB).length c1) ((cs.take i).filter rdB) vs1 ∧ CRow w.heap.size w.heap.size wr (.slice a2 ((cs.take i).filter wrB).length c2) ((cs.take i).filter wrB) vs2 ∧
    (∀ g, (Value.slice a1 ((cs.take i).filter rdB).length c1).ownBlock = some g → (Value.slice a2 ((cs.take i).filter wrB).length c2).ownBlock ≠ some g) ∧ Below w.heap.size w wr ∧ k = cs.length - i

theorem ap_in (wr : World) (x : CallD) (Ab : Option Addr) (kb : Nat) {v1 : World} (h : v1 = (wr.alloc (.cells (callCells x Ab kb) 34)).alloc (.cells (callCells x Ab kb) 34)) : Below wr.heap.size wr v1 ∧ Blk v1 wr.heap.size 34 (callCells x Ab kb) := by
  subst h
  exact ⟨((Below.refl _ _).alloc (Nat.le_refl _) _).alloc (by simp) _, (Blk.new wr 34 _).alloc _⟩
theorem ap_swap {v u : Value} (h : ∀ g, v.ownBlock = some g → u.ownBlock ≠ some g) : ∀ g, u.ownBlock = some g → v.ownBlock ≠ some g := fun g h1 h2 => h g h2 h1
theorem ap_cal {d w5 : World} {wr : World} {row : Option Nat} {cc : Array Value} (h : Blk d wr.heap.size 34 cc) (hg : d.grownBy w5 row) (hr : ∀ k, row = some k → k < wr.heap.size) : Blk w5 wr.heap.size 34 cc :=
  h.grown hg (fun e => by have := hr _ e.symm; omega)
/-- a call has been put behind a row -/
theorem ap_put {w wr d w5 : World} {v u v' : Value} {cs ds : List CallD} {vs us : List Value} {x : CallD} {Ab : Option Addr} {kb : Nat} (h1 : CRow w.heap.size w.heap.size wr v cs vs) (h2 : CRow w.heap.size w.heap.size wr u ds us) (hne : ∀ g, v.ownBlock = some g → u.ownBlock ≠ some g) (hb : Below w.heap.size w wr)
    (hd : Below wr.heap.size wr d) (hm : x.n ≤ 9223372036854775807) (hx : Reads wr w.heap.size 1 Ab x.bytes.length (bvs x.bytes)) (ho : w5.ownsRow w.heap.size 34 4 v' (cs.length + 1) (vs ++ (callCells x Ab kb).toList)) (hg : d.grownBy w5 v.ownBlock) (hat : v'.ownBlock = v.ownBlock ∨ v'.ownBlock = some d.heap.size) :
    CRow w.heap.size w.heap.size w5 v' (cs ++ [x]) (vs ++ (callCells x Ab kb).toList) ∧ CRow w.heap.size w.heap.size w5 u ds us ∧ (∀ g, v'.ownBlock = some g → u.ownBlock ≠ some g) ∧ Below w.heap.size w w5 := by
  have hk : Keep (fun k => v.ownBlock = some k) wr w5 := (Keep.ofBelow hd _).grown hg (fun k hk => .inl hk)
  have hB : Below w.heap.size wr w5 := hk.below (fun k e => (h1.own.lt k e).1) hb.size
  refine ⟨⟨by rw [List.length_append]; exact ho, (h1.flat.below hB).append (CallsFlat.one hm (hx.below hB))⟩, h2.keep hk (fun k e e' => hne k e' e) (fun k e => (h1.own.lt k e).1) hb.size, fun g hg' hu => ?_, hb.trans hB⟩
  rcases hat with e | e
  · exact hne g (e ▸ hg') hu
  · rw [e] at hg'
    injection hg' with hg'
    have := (h2.own.lt g hu).2
    have := hd.size
    omega
theorem ap_start (cs : List CallD) (w : World) : Ap1 cs w cs.length (.slice (some ⟨w.heap.size, 0, none⟩) 0 0) (.slice (some ⟨w.heap.size + 1, 0, none⟩) 0 0) (.int .i64 0) ((w.alloc (.cells #[] 34)).alloc (.cells #[] 34)) := by
  have h1 := World.ownsRow_made (e := 34) (size := 4) (base := w.heap.size) w #[] 0 (Nat.le_refl _) (by simp [maxLen]) (by simp)
  have h1' := own_keep h1 ((Keep.refl (fun _ => False) _).alloc (.cells #[] 34)) (fun _ _ h => h)
  have h2 := World.ownsRow_made (e := 34) (size := 4) (base := w.heap.size) (w.alloc (.cells #[] 34)) #[] 0 (by simp) (by simp [maxLen]) (by simp)
  have e2 : (w.alloc (.cells #[] 34)).heap.size = w.heap.size + 1 := by simp
  rw [e2] at h2
  refine ⟨0, _, _, _, _, [], [], Nat.zero_le _, rfl, rfl, rfl, ⟨h1', CallsFlat.nil⟩, ⟨h2, CallsFlat.nil⟩, fun g hg hg2 => ?_, ((Below.refl _ _).alloc (Nat.le_refl _) _).alloc (by simp) _, rfl⟩
  simp [Value.ownBlock] at hg hg2
  omega

/-! ### rows of answers -/
theorem OutsB.more {w : World} {B B' : Nat} {A : Option Addr} {os : List OutD} (h : OutsB w B A os) (hB : B ≤ B') : OutsB w B' A os := by
  obtain ⟨flat, h1, h2⟩ := h
  refine ⟨flat, h1.more hB, fun j o hj => ?_⟩
  obtain ⟨Ab, c, h3, h4⟩ := h2 j o hj
  exact ⟨Ab, c, h3, h4.more hB⟩
def OFlat (w : World) (B : Nat) (flat : List Value) (os : List OutD) : Prop := ∀ (j : Nat) (o : OutD), os[j]? = some o → ∃ Ab c, (flat.drop (j * 3)).take 3 = (outCells Ab o.bytes.length c o.n ((o.err : Nat) : Int)).toList ∧ Reads w B 1 Ab o.bytes.length (bvs o.bytes)
theorem OFlat.below {w w' : World} {B : Nat} {flat : List Value} {os : List OutD} (h : OFlat w B flat os) (hb : Below B w w') : OFlat w' B flat os := fun j o hj => by
  obtain ⟨Ab, c, h3, h4⟩ := h j o hj
  exact ⟨Ab, c, h3, h4.below hb⟩
theorem OFlat.snoc {w : World} {B : Nat} {flat : List Value} {os : List OutD} {o : OutD} {Ab : Option Addr} {kb : Nat} (h : OFlat w B flat os) (hl : flat.length = os.length * 3) (hr : Reads w B 1 Ab o.bytes.length (bvs o.bytes)) : OFlat w B (flat ++ (outCells Ab o.bytes.length kb o.n ((o.err : Nat) : Int)).toList) (os ++ [o]) := by
  intro j o' hj
  rcases Nat.lt_trichotomy j os.length with hlt | rfl | hgt
  · rw [List.getElem?_append_left hlt] at hj
    have := h j o' hj
    rw [List.drop_append_of_le_length (by omega), List.take_append_of_le_length (by rw [List.length_drop]; omega)]
    exact this
  · rw [List.getElem?_append_right (Nat.le_refl _)] at hj
    simp only [Nat.sub_self, List.getElem?_cons_zero, Option.some.injEq] at hj
    subst hj
    refine ⟨Ab, kb, ?_, hr⟩
    rw [← hl, List.drop_append_of_le_length (Nat.le_refl _), List.drop_length, List.nil_append]
    rfl
  · rw [List.getElem?_eq_none (by simp; omega)] at hj
    cases hj
structure ORow (B : Nat) (wr : World) (v : Value) (os : List OutD) (fl : List Value) : Prop where
  own : wr.ownsRow B 36 3 v os.length fl
  flat : OFlat wr B fl os
theorem ORow.keep {B : Nat} {X : Nat → Prop} {w w' : World} {v : Value} {os : List OutD} {fl : List Value} (h : ORow B w v os fl) (hk : Keep X w w') (hv : ∀ k, v.ownBlock = some k → ¬ X k) (hX : ∀ k, X k → B ≤ k) (hB : B ≤ w.heap.size) : ORow B w' v os fl :=
  ⟨own_keep h.own hk hv, h.flat.below (hk.below hX hB)⟩
theorem ORow.sl {B c n : Nat} {w : World} {A : Option Addr} {os : List OutD} {fl : List Value} (h : ORow B w (.slice A n c) os fl) (hn : n = os.length) (hB : B ≤ w.heap.size) : OutsSl w A os := by
  subst hn
  refine ⟨fl, Reads.of_own h.own, fun j o hj => ?_⟩
  obtain ⟨Ab, k, h1, h2⟩ := h.flat j o hj
  exact ⟨Ab, k, h1, h2.more hB, fun h0 => by obtain ⟨ad, e, _⟩ := h2.2 h0; exact ⟨ad, e, fun h => h⟩⟩
theorem op_put {w wr d w5 : World} {v u v' : Value} {os ds : List OutD} {fl gl : List Value} {o : OutD} {Ao : Option Addr} {ko : Nat} (h1 : ORow w.heap.size wr v os fl) (h2 : ORow w.heap.size wr u ds gl) (hne : ∀ g, v.ownBlock = some g → u.ownBlock ≠ some g) (hb : Below w.heap.size w wr)
    (hd : Below wr.heap.size wr d) (hx : Reads wr w.heap.size 1 Ao o.bytes.length (bvs o.bytes)) (ho : w5.ownsRow w.heap.size 36 3 v' (os.length + 1) (fl ++ (outCells Ao o.bytes.length ko o.n ((o.err : Nat) : Int)).toList)) (hg : d.grownBy w5 v.ownBlock) (hat : v'.ownBlock = v.ownBlock ∨ v'.ownBlock = some d.heap.size) :
    ORow w.heap.size w5 v' (os ++ [o]) (fl ++ (outCells Ao o.bytes.length ko o.n ((o.err : Nat) : Int)).toList) ∧ ORow w.heap.size w5 u ds gl ∧ (∀ g, v'.ownBlock = some g → u.ownBlock ≠ some g) ∧ Below w.heap.size w w5 := by
  have hk : Keep (fun k => v.ownBlock = some k) wr w5 := (Keep.ofBelow hd _).grown hg (fun k hk => .inl hk)
  have hB : Below w.heap.size wr w5 := hk.below (fun k e => (h1.own.lt k e).1) hb.size
  refine ⟨⟨by rw [List.length_append]; exact ho, (h1.flat.below hB).snoc h1.own.1 (hx.below hB)⟩, h2.keep hk (fun k e e' => hne k e' e) (fun k e => (h1.own.lt k e).1) hb.size, fun g hg' hu => ?_, hb.trans hB⟩
  rcases hat with e | e
  · exact hne g (e ▸ hg') hu
  · rw [e] at hg'
    injection hg' with hg'
    have := (h2.own.lt g hu).2
    have := hd.size
    omega
theorem no_piecesA (w : World) (B : Nat) (A : Option Addr) : PiecesAt w B A [] := ⟨[], Reads.none_, fun j p hj => by simp at hj⟩
def Ap2 (cs : List CallD) (os : List OutD) (w : World) (k : Nat) (t17 t18 t84 : Value) (wr : World) : Prop :=
  ∃ i a1 c1 a2 c2 vs1 vs2, i ≤ cs.length ∧ t84 = .int .i64 ((i : Nat) : Int) ∧ t17 = .slice a1 (pick rdB (cs.take i) (os.take i)).length c1 ∧ t18 = .slice a2 (pick wrB (cs.take i) (os.take i)).length c2 ∧
    ORow w.heap.size wr (.slice a1 (pick rdB (cs.take i) (os.take i)).length c1) (pick rdB (cs.take i) (os.take i)) vs1 ∧ ORow w.heap.size wr (.slice a2 (pick wrB (cs.take i) (os.take i)).length c2) (pick wrB (cs.take i) (os.take i)) vs2 ∧
    (∀ g, (Value.slice a1 (pick rdB (cs.take i) (os.take i)).length c1).ownBlock = some g → (Value.slice a2 (pick wrB (cs.take i) (os.take i)).length c2).ownBlock ≠ some g) ∧ Below w.heap.size w wr ∧ k = cs.length - i
theorem op_start (cs : List CallD) (os : List OutD) (w : World) : Ap2 cs os w cs.length (.slice (some ⟨w.heap.size, 0, none⟩) 0 0) (.slice (some ⟨w.heap.size + 1, 0, none⟩) 0 0) (.int .i64 0) ((w.alloc (.cells #[] 36)).alloc (.cells #[] 36)) := by
  have h1 := World.ownsRow_made (e := 36) (size := 3) (base := w.heap.size) w #[] 0 (Nat.le_refl _) (by simp [maxLen]) (by simp)
  have h1' := own_keep h1 ((Keep.refl (fun _ => False) _).alloc (.cells #[] 36)) (fun _ _ h => h)
  have h2 := World.ownsRow_made (e := 36) (size := 3) (base := w.heap.size) (w.alloc (.cells #[] 36)) #[] 0 (by simp) (by simp [maxLen]) (by simp)
  have e2 : (w.alloc (.cells #[] 36)).heap.size = w.heap.size + 1 := by simp
  rw [e2] at h2
  refine ⟨0, _, _, _, _, [], [], Nat.zero_le _, rfl, rfl, rfl, ⟨h1', fun j o hj => by simp [pick] at hj⟩, ⟨h2, fun j o hj => by simp [pick] at hj⟩, fun g hg hg2 => ?_, ((Below.refl _ _).alloc (Nat.le_refl _) _).alloc (by simp) _, rfl⟩
  simp [Value.ownBlock] at hg hg2
  omega
theorem pick_le (p : CallD → Bool) (cs : List CallD) (os : List OutD) (i : Nat) : (pick p (cs.take i) (os.take i)).length ≤ i := by
  unfold pick
  rw [List.length_map]
  refine Nat.le_trans (List.length_filter_le _ _) ?_
  rw [List.length_zip, List.length_take, List.length_take]
  omega

set_option maxRecDepth 100000 in
set_option maxHeartbeats 8000000 in
theorem law9 (E : Nat → Addr) (n : Nat) (hn : n ≤ 255) (A : Option Addr) (c : Nat) (ps : List (List UInt8)) (A2 : Option Addr) (c2 : Nat) (cs : List CallD) (w : World) (hE : Env w w.heap.size E) (ht : Lib.Utf8Tabs 9 10 w) (hp : PiecesAt w w.heap.size A ps) (hc : CallsAt w w.heap.size A2 cs) (hroom : Room (ps.flatten.length + 255)) (hl : Room ps.length) (hcl : Room (callsLen cs + 1000)) :
    Calls Tryd.prog 9 #[.int .u8 (n : Nat), .slice A ps.length c, .slice A2 cs.length c2] w (LawTrue w) := by
  obtain ⟨i0, hi0, hz0, hz1, hz2⟩ := info_parts Tryd.info34
  have HI := Lib.hid (And.intro hi0 (And.intro hz0 (And.intro hz1 hz2))); clear hi0 hz0 hz1 hz2
  obtain ⟨j0, hj0, hy0, hy1, hy2⟩ := info_parts Tryd.info36
  have HJ := Lib.hid (And.intro hj0 (And.intro hy0 (And.intro hy1 hy2))); clear hj0 hy0 hy1 hy2
  have hcs1 : cs.length + 1000 ≤ 1000000000 := by have h2 := callsLen_ge cs; unfold Room at hcl; omega
  have HE := Lib.hid (And.intro hE (And.intro ht (And.intro hp (And.intro hroom (And.intro hl (And.intro hc (hcl.mono (Nat.le_add_right _ _)))))))); clear hE hp hroom hl ht hc hcl
  have hstart := ap_start cs w
  have HS := Lib.hid hstart; clear hstart
  go_enter Tryd.func9, Tryd.ntmps9
  go_wp2_with fail
  go_loopg [7, 8, 25] cs.length (fun k t7 t8 t25 wr => Ap1 cs w k t7 t8 t25 wr)
  case atStart => exact HS.out
  case round =>
    clear HS
    obtain ⟨i, a1, c1, a2, c3, vs1, vs2, hi, ht25, ht7, ht8, hr1, hr2, hne, hb, hk⟩ := hrel
    subst ht25 ht7 ht8
    have Hk := Lib.hid hk; clear hk
    by_cases hlt : i < cs.length
    · have hd : decide (i < cs.length) = true := by simpa using hlt
      obtain ⟨hmax, ad, Ab, kb, rfl, hadb, hrb, hcell⟩ := (HE.out.2.2.2.2.2.1.below hb).at_ hlt
      obtain ⟨x, hx⟩ : ∃ x, x = cs[i] := ⟨_, rfl⟩
      have hf1 := filter_take rdB cs i hlt
      have hf2 := filter_take wrB cs i hlt
      have hn1 : ((cs.take i).filter rdB).length ≤ i := Nat.le_trans (List.length_filter_le _ _) (by rw [List.length_take]; omega)
      have hn2 : ((cs.take i).filter wrB).length ≤ i := Nat.le_trans (List.length_filter_le _ _) (by rw [List.length_take]; omega)
      rw [← hx] at hrb hcell hf1 hf2 hmax
      have d0 : wr.cell? (ad.add (i * 4)) = some (.int .i64 x.kind) := hcell 0 _ rfl
      have d1 : wr.cell? ⟨(ad.add (i * 4)).block, (ad.add (i * 4)).off + 1, none⟩ = some (.int .i64 x.n) := by
        have := hcell 1 _ rfl
        rw [← add_of_add] at this
        exact this
      have d2 : wr.cell? ⟨(ad.add (i * 4)).block, (ad.add (i * 4)).off + 2, none⟩ = some (.int .u8 (x.delim.toNat : Int)) := by
        have := hcell 2 _ rfl
        rw [← add_of_add] at this
        exact this
      have d3 : wr.cell? ⟨(ad.add (i * 4)).block, (ad.add (i * 4)).off + 3, none⟩ = some (.slice Ab x.bytes.length kb) := by
        have := hcell 3 _ rfl
        rw [← add_of_add] at this
        exact this
      generalize (cs.take i).filter rdB = f1 at *
      generalize (cs.take i).filter wrB = f2 at *
      have H := Lib.hid (And.intro hr1 (And.intro hr2 (And.intro hne (And.intro hb (And.intro hmax (And.intro hrb (And.intro hf1 hf2))))))); clear hr1 hr2 hne hb hmax hrb hf1 hf2 hx hcell hadb
      by_cases hrd : rdB x = true
      · have hwb : wrB x = false := by
          have h1 := (rdB_iff x).1 hrd
          rcases hh : wrB x with _ | _
          · rfl
          · have h2 := (wrB_iff x).1 hh
            unfold isRd at h1
            unfold isWr at h2
            omega
        go_wp2_with fail
        refine (isReading_is x Ab kb _ true hrd).mono ?_
        rintro e v1 ⟨rfl, hv1⟩
        have hin := ap_in wr x Ab kb hv1
        clear hv1 d0 d1 d2 d3
        have e0 : v1.cell? ⟨wr.heap.size, 0, none⟩ = some (.int .i64 x.kind) := hin.2.cell 0
        have e1 : v1.cell? ⟨wr.heap.size, 1, none⟩ = some (.int .i64 x.n) := hin.2.cell 1
        have e2 : v1.cell? ⟨wr.heap.size, 2, none⟩ = some (.int .u8 (x.delim.toNat : Int)) := hin.2.cell 2
        have e3 : v1.cell? ⟨wr.heap.size, 3, none⟩ = some (.slice Ab x.bytes.length kb) := hin.2.cell 3
        have Hin := Lib.hid hin; clear hin
        have hbo : Below v1.heap.size v1 (v1.alloc (.cells (callCells x Ab kb) 34)) := (Below.refl _ _).alloc (Nat.le_refl _) _
        have hbd := below2 Hin.out.1 hbo
        have ho4 := own_keep H.out.1.own (Keep.ofBelow hbd (fun _ => False)) (fun _ _ h => h)
        have hr4 := call_reads v1 x Ab kb
        have hsz : w.heap.size ≤ (v1.alloc (.cells (callCells x Ab kb) 34)).heap.size := Nat.le_trans H.out.2.2.2.1.size hbd.size
        have hrm : Room (f1.length + 1) := by unfold Room; omega
        have hcl := Hin.out.2.alloc (.cells (callCells x Ab kb) 34)
        have H3 := Lib.hid (And.intro ho4 (And.intro hr4 (And.intro hrm (And.intro hsz (And.intro hbd hcl))))); clear ho4 hr4 hrm hsz hbo hbd hcl
        go_wp2_with (at_builtin; refine wpList_append_any _ rfl (.tmp 31) (.tmp 33) _ rfl w.heap.size 34 i0 _ 4 48 Tryd.underlying23 HI.out.1 HI.out.2.1 HI.out.2.2.1 HI.out.2.2.2 rfl (by omega) (.slice a1 f1.length c1) f1.length vs1 rfl H3.out.1 _ _ 1 1 (callCells x Ab kb).toList rfl H3.out.2.1 (call_one _ _ _) H3.out.2.2.1.len (H3.out.2.2.1.bytes 48 (by omega)) H3.out.2.2.2.1 ?_; intro u5 w5 hown5 hg5 hat5; obtain ⟨b5, k5, hv5⟩ := own_slice hown5; subst hv5; have hz := ap_put H.out.1 H.out.2.1 H.out.2.2.1 H.out.2.2.2.1 H3.out.2.2.2.2.1 H.out.2.2.2.2.1 H.out.2.2.2.2.2.1 hown5 hg5 hat5; have hC5 := ap_cal H3.out.2.2.2.2.2 hg5 (fun k hk => (H.out.1.own.lt k hk).2); have e0 : w5.cell? ⟨wr.heap.size, 0, none⟩ = some (.int .i64 x.kind) := hC5.cell 0; have e1 : w5.cell? ⟨wr.heap.size, 1, none⟩ = some (.int .i64 x.n) := hC5.cell 1; have e2 : w5.cell? ⟨wr.heap.size, 2, none⟩ = some (.int .u8 (x.delim.toNat : Int)) := hC5.cell 2; have e3 : w5.cell? ⟨wr.heap.size, 3, none⟩ = some (.slice Ab x.bytes.length kb) := hC5.cell 3; have H5 := Lib.hid hz; clear hown5 hg5 hat5 hz hC5)
        refine (isWriting_is x Ab kb w5 false hwb).mono ?_
        rintro e v2 ⟨rfl, hv2⟩
        have hb2 : Below w5.heap.size w5 v2 := by rw [hv2]; exact (Below.refl _ _).alloc (Nat.le_refl _) _
        have H6 := Lib.hid hb2; clear hb2 hv2
        go_wp2_with fail
        go_roundg (cs.length - (i + 1))
        case measure => have := Hk.out; omega
        case rel =>
          obtain ⟨q1, q2, q3, q4⟩ := H5.out
          have hf1 := H.out.2.2.2.2.2.2.1
          have hf2 := H.out.2.2.2.2.2.2.2
          rw [if_pos hrd] at hf1
          rw [if_neg (by rw [hwb]; simp), List.append_nil] at hf2
          have hk6 := Keep.ofBelow H6.out (fun _ => False)
          refine ⟨i + 1, b5, k5, a2, c3, vs1 ++ (callCells x Ab kb).toList, vs2, hlt, ?_, ?_, ?_, ?_, ?_, ?_, below2 q4 H6.out, rfl⟩
          · refine congrArg (Value.int .i64) ?_
            first | rfl | omega | (rw [IntWalk.wrap64_in _ (by omega)]; rfl)
          · rw [hf1, List.length_append, List.length_singleton]
          · rw [hf2]
          · rw [hf1, List.length_append, List.length_singleton]
            exact q1.keep hk6 (fun _ _ h => h) (fun _ h => h.elim) q4.size
          · rw [hf2]
            exact q2.keep hk6 (fun _ _ h => h) (fun _ h => h.elim) q4.size
          · rw [hf1, hf2, List.length_append, List.length_singleton]
            exact q3
      · have hrd : rdB x = false := by simpa using hrd
        by_cases hwb : wrB x = true
        · go_wp2_with fail
          refine (isReading_is x Ab kb _ false hrd).mono ?_
          rintro e v1 ⟨rfl, hv1⟩
          have hin := ap_in wr x Ab kb hv1
          clear hv1 d0 d1 d2 d3
          have e0 : v1.cell? ⟨wr.heap.size, 0, none⟩ = some (.int .i64 x.kind) := hin.2.cell 0
          have e1 : v1.cell? ⟨wr.heap.size, 1, none⟩ = some (.int .i64 x.n) := hin.2.cell 1
          have e2 : v1.cell? ⟨wr.heap.size, 2, none⟩ = some (.int .u8 (x.delim.toNat : Int)) := hin.2.cell 2
          have e3 : v1.cell? ⟨wr.heap.size, 3, none⟩ = some (.slice Ab x.bytes.length kb) := hin.2.cell 3
          have hbv : Below wr.heap.size wr v1 := hin.1
          have Hin0 := Lib.hid hin; clear hin
          go_wp2_with fail
          refine (isWriting_is x Ab kb _ true hwb).mono ?_
          rintro e v2 ⟨rfl, hv2⟩
          have hin : Below wr.heap.size wr v2 ∧ Blk v2 wr.heap.size 34 (callCells x Ab kb) := by
            rw [hv2]
            exact ⟨Hin0.out.1.alloc Hin0.out.1.size _, Hin0.out.2.alloc _⟩
          clear hv2 e0 e1 e2 e3 hbv
          have e0 : v2.cell? ⟨wr.heap.size, 0, none⟩ = some (.int .i64 x.kind) := hin.2.cell 0
          have e1 : v2.cell? ⟨wr.heap.size, 1, none⟩ = some (.int .i64 x.n) := hin.2.cell 1
          have e2 : v2.cell? ⟨wr.heap.size, 2, none⟩ = some (.int .u8 (x.delim.toNat : Int)) := hin.2.cell 2
          have e3 : v2.cell? ⟨wr.heap.size, 3, none⟩ = some (.slice Ab x.bytes.length kb) := hin.2.cell 3
          have Hin := Lib.hid hin; clear hin Hin0
          have hbo : Below v2.heap.size v2 (v2.alloc (.cells (callCells x Ab kb) 34)) := (Below.refl _ _).alloc (Nat.le_refl _) _
          have hbd := below2 Hin.out.1 hbo
          have ho4 := own_keep H.out.2.1.own (Keep.ofBelow hbd (fun _ => False)) (fun _ _ h => h)
          have hr4 := call_reads v2 x Ab kb
          have hsz : w.heap.size ≤ (v2.alloc (.cells (callCells x Ab kb) 34)).heap.size := Nat.le_trans H.out.2.2.2.1.size hbd.size
          have hrm : Room (f2.length + 1) := by unfold Room; omega
          have hcl := Hin.out.2.alloc (.cells (callCells x Ab kb) 34)
          have H3 := Lib.hid (And.intro ho4 (And.intro hr4 (And.intro hrm (And.intro hsz (And.intro hbd hcl))))); clear ho4 hr4 hrm hsz hbo hbd hcl
          go_wp2_with (at_builtin; refine wpList_append_any _ rfl (.tmp 37) (.tmp 39) _ rfl w.heap.size 34 i0 _ 4 48 Tryd.underlying23 HI.out.1 HI.out.2.1 HI.out.2.2.1 HI.out.2.2.2 rfl (by omega) (.slice a2 f2.length c3) f2.length vs2 rfl H3.out.1 _ _ 1 1 (callCells x Ab kb).toList rfl H3.out.2.1 (call_one _ _ _) H3.out.2.2.1.len (H3.out.2.2.1.bytes 48 (by omega)) H3.out.2.2.2.1 ?_; intro u5 w5 hown5 hg5 hat5; obtain ⟨b5, k5, hv5⟩ := own_slice hown5; subst hv5; have hz := ap_put H.out.2.1 H.out.1 (ap_swap H.out.2.2.1) H.out.2.2.2.1 H3.out.2.2.2.2.1 H.out.2.2.2.2.1 H.out.2.2.2.2.2.1 hown5 hg5 hat5; have hC5 := ap_cal H3.out.2.2.2.2.2 hg5 (fun k hk => (H.out.2.1.own.lt k hk).2); have e0 : w5.cell? ⟨wr.heap.size, 0, none⟩ = some (.int .i64 x.kind) := hC5.cell 0; have e1 : w5.cell? ⟨wr.heap.size, 1, none⟩ = some (.int .i64 x.n) := hC5.cell 1; have e2 : w5.cell? ⟨wr.heap.size, 2, none⟩ = some (.int .u8 (x.delim.toNat : Int)) := hC5.cell 2; have e3 : w5.cell? ⟨wr.heap.size, 3, none⟩ = some (.slice Ab x.bytes.length kb) := hC5.cell 3; have H5 := Lib.hid hz; clear hown5 hg5 hat5 hz hC5)
          go_roundg (cs.length - (i + 1))
          case measure => have := Hk.out; omega
          case rel =>
            obtain ⟨q1, q2, q3, q4⟩ := H5.out
            have hf1 := H.out.2.2.2.2.2.2.1
            have hf2 := H.out.2.2.2.2.2.2.2
            rw [if_pos hwb] at hf2
            rw [if_neg (by rw [hrd]; simp), List.append_nil] at hf1
            refine ⟨i + 1, a1, c1, b5, k5, vs1, vs2 ++ (callCells x Ab kb).toList, hlt, ?_, ?_, ?_, ?_, ?_, ?_, q4, rfl⟩
            · refine congrArg (Value.int .i64) ?_
              first | rfl | omega | (rw [IntWalk.wrap64_in _ (by omega)]; rfl)
            · rw [hf1]
            · rw [hf2, List.length_append, List.length_singleton]
            · rw [hf1]
              exact q2
            · rw [hf2, List.length_append, List.length_singleton]
              exact q1
            · rw [hf1, hf2, List.length_append, List.length_singleton]
              exact ap_swap q3
        · have hwb : wrB x = false := by simpa using hwb
          go_wp2_with fail
          refine (isReading_is x Ab kb _ false hrd).mono ?_
          rintro e v1 ⟨rfl, hv1⟩
          have hin := ap_in wr x Ab kb hv1
          clear hv1 d0 d1 d2 d3
          have e0 : v1.cell? ⟨wr.heap.size, 0, none⟩ = some (.int .i64 x.kind) := hin.2.cell 0
          have e1 : v1.cell? ⟨wr.heap.size, 1, none⟩ = some (.int .i64 x.n) := hin.2.cell 1
          have e2 : v1.cell? ⟨wr.heap.size, 2, none⟩ = some (.int .u8 (x.delim.toNat : Int)) := hin.2.cell 2
          have e3 : v1.cell? ⟨wr.heap.size, 3, none⟩ = some (.slice Ab x.bytes.length kb) := hin.2.cell 3
          have Hin0 := Lib.hid hin; clear hin
          go_wp2_with fail
          refine (isWriting_is x Ab kb _ false hwb).mono ?_
          rintro e v2 ⟨rfl, hv2⟩
          have hb2 : Below wr.heap.size wr v2 := by
            rw [hv2]
            exact Hin0.out.1.alloc Hin0.out.1.size _
          have H6 := Lib.hid hb2; clear hb2 hv2 Hin0
          go_wp2_with fail
          go_roundg (cs.length - (i + 1))
          case measure => have := Hk.out; omega
          case rel =>
            have hf1 := H.out.2.2.2.2.2.2.1
            have hf2 := H.out.2.2.2.2.2.2.2
            rw [if_neg (by rw [hrd]; simp), List.append_nil] at hf1
            rw [if_neg (by rw [hwb]; simp), List.append_nil] at hf2
            have hk6 := Keep.ofBelow H6.out (fun _ => False)
            refine ⟨i + 1, a1, c1, a2, c3, vs1, vs2, hlt, ?_, ?_, ?_, ?_, ?_, ?_, below2 H.out.2.2.2.1 H6.out, rfl⟩
            · refine congrArg (Value.int .i64) ?_
              first | rfl | omega | (rw [IntWalk.wrap64_in _ (by omega)]; rfl)
            · rw [hf1]
            · rw [hf2]
            · rw [hf1]
              exact H.out.1.keep hk6 (fun _ _ h => h) (fun _ h => h.elim) H.out.2.2.2.1.size
            · rw [hf2]
              exact H.out.2.1.keep hk6 (fun _ _ h => h) (fun _ h => h.elim) H.out.2.2.2.1.size
            · rw [hf1, hf2]
              exact H.out.2.2.1
    · have hd : decide (i < cs.length) = false := by simpa using hlt
      have hta : cs.take i = cs := List.take_of_length_le (by omega)
      rw [hta] at hr1 hr2 ⊢
      clear hne hta
      have hbw := hb
      have hrun1 := run_at E n hn A c ps A2 c2 cs HE.out.1 HE.out.2.1 HE.out.2.2.1 HE.out.2.2.2.2.2.1 HE.out.2.2.2.1 HE.out.2.2.2.2.1 HE.out.2.2.2.2.2.2 hbw
      have hlr := runM_len cs (newReader (rsize n) ps) ⟨zeros (wsize n), 0, []⟩
      obtain ⟨ard1, ard2⟩ := apart_rd cs (newReader (rsize n) ps) ⟨zeros (wsize n), 0, []⟩ ⟨zeros (wsize n), 0, []⟩
      obtain ⟨awr1, awr2⟩ := apart_wr cs (newReader (rsize n) ps) (newReader (rsize n) []) ⟨zeros (wsize n), 0, []⟩
      have hfl1 : Room (callsLen (cs.filter rdB)) := HE.out.2.2.2.2.2.2.mono (filter_len rdB cs)
      have hfl2 : Room (callsLen (cs.filter wrB)) := HE.out.2.2.2.2.2.2.mono (filter_len wrB cs)
      have hrun2 := fun w2 (hb2 : Below wr.heap.size wr w2) => run23 E n hn A c ps a1 c1 (cs.filter rdB) w2 ((HE.out.1.below (below2 hbw hb2)).more (below2 hbw hb2).size) (tabs_keep HE.out.2.1 (Keep.ofBelow (below2 hbw hb2) (fun _ => False)) (fun _ h => h.elim) HE.out.1.five) ((HE.out.2.2.1.below (below2 hbw hb2)).more (below2 hbw hb2).size) (calls_own rfl (own_keep hr1.own (Keep.ofBelow hb2 (fun _ => False)) (fun _ _ h => h)) (hr1.flat.below (hb2.mono hbw.size)) (below2 hbw hb2).size) HE.out.2.2.2.1 HE.out.2.2.2.2.1 hfl1
      have hrun3 := fun w2 (hb2 : Below wr.heap.size wr w2) Ax => run23 E n hn Ax 0 [] a2 c3 (cs.filter wrB) w2 ((HE.out.1.below (below2 hbw hb2)).more (below2 hbw hb2).size) (tabs_keep HE.out.2.1 (Keep.ofBelow (below2 hbw hb2) (fun _ => False)) (fun _ h => h.elim) HE.out.1.five) (no_piecesA _ _ _) (calls_own rfl (own_keep hr2.own (Keep.ofBelow hb2 (fun _ => False)) (fun _ _ h => h)) (hr2.flat.below (hb2.mono hbw.size)) (below2 hbw hb2).size) (by simp [Room]) (by simp [Room]) hfl2
      rw [ard1, ard2] at hrun2
      rw [awr1, awr2] at hrun3
      clear ard1 ard2 awr1 awr2
      generalize (runM (newReader (rsize n) ps) ⟨zeros (wsize n), 0, []⟩ cs).2.1.got = got at *
      generalize (runM (newReader (rsize n) ps) ⟨zeros (wsize n), 0, []⟩ cs).2.2 = os at *
      have HR := Lib.hid (And.intro hrun1 (And.intro hrun2 (And.intro hrun3 (And.intro hlr hbw)))); clear hrun1 hrun2 hrun3 hlr hbw hfl1 hfl2 hr1 hr2 hb
      generalize (cs.filter rdB).length = nf1 at *
      generalize (cs.filter wrB).length = nf2 at *
      go_wp2_with fail
      refine HR.out.1.mono ?_
      rintro e w2 ⟨a4, k4, gv, flat4, rfl, hown4, houts4, hgv, hb4⟩
      obtain ⟨ag, cg, rfl⟩ := own_slice hgv
      have hO := outs_b rfl hown4 houts4
      have H2 := Lib.hid (And.intro hO (And.intro hgv hb4)); clear hown4 houts4 hgv hb4 hO
      go_wp2_with fail
      refine (HR.out.2.1 w2 H2.out.2.2).mono ?_
      rintro e w3 ⟨a5, k5, gv5, flat5, rfl, hown5, houts5, hgv5, hb5⟩
      obtain ⟨ag5, cg5, rfl⟩ := own_slice hgv5
      have hs5 := outs_sl rfl hown5 houts5
      have hb25 := below2 H2.out.2.2 hb5
      have hb6 : Below w3.heap.size w3 (w3.alloc (.cells #[] 25)) := (Below.refl _ _).alloc (Nat.le_refl _) _
      have H3 := Lib.hid (And.intro hs5 (And.intro hb5 (And.intro hb25 (And.intro hb6 (below2 hb25 hb6))))); clear hown5 houts5 hgv5 hb5 hs5 hb25 hb6
      go_wp2_with fail
      refine (HR.out.2.2.1 _ H3.out.2.2.2.2 (some ⟨w3.heap.size, 0, none⟩)).mono ?_
      rintro e w4 ⟨a7, k7, gv7, flat7, rfl, hown7, houts7, hgv7, hb7⟩
      obtain ⟨ag7, cg7, rfl⟩ := own_slice hgv7
      have hs7 := outs_sl rfl hown7 houts7
      have hb36 : Below w3.heap.size w3 w4 := below2 H3.out.2.2.2.1 hb7
      have hb26 : Below w2.heap.size w2 w4 := below2 H3.out.2.1 hb36
      have hO4 := (H2.out.1.below hb26).more hb26.size
      have hs54 := H3.out.1.below hb36
      have hbw4 := below2 HR.out.2.2.2.2 (below2 H2.out.2.2 hb26)
      have q1 := conv_str (c := cg) (Reads.of_own (own_keep H2.out.2.1 (Keep.ofBelow hb26 (fun _ => False)) (fun _ _ h => h)))
      have q2 := conv_str (c := cg7) (Reads.of_own hgv7)
      have hst := op_start cs os w4
      have H4 := Lib.hid (And.intro hO4 (And.intro hs54 (And.intro hs7 (And.intro hbw4 (And.intro hst HR.out.2.2.2.1))))); clear hown7 houts7 hgv7 hb7 hs7 hb36 hb26 hO4 hs54 hbw4 hst
      have hlo := H4.out.2.2.2.2.2
      rw [hlo]
      clear hlo
      generalize hP1 : pick rdB cs os = p1 at *
      generalize hP2 : pick wrB cs os = p2 at *
      have HP := Lib.hid (And.intro hP1 hP2); clear hP1 hP2
      generalize got.length = gl at *
      generalize hcl : cs.length = cl at *
      have Hcl := Lib.hid hcl; clear hcl
      go_wp2_with fail
      go_loopg [17, 18, 84] cl (fun k t17 t18 t84 wr => Ap2 cs os w4 k t17 t18 t84 wr)
      case atStart => exact H4.out.2.2.2.2.1
      case round =>
        obtain ⟨i, b1, d1, b2, d2, vs1, vs2, hi, ht84, ht17, ht18, hr1, hr2, hne, hb, hk⟩ := hrel
        subst ht84 ht17 ht18
        have Hk := Lib.hid hk; clear hk
        rw [Hcl.out] at hi Hk
        by_cases hlt : i < cl
        · have hd2 : decide (i < cl) = true := by simpa using hlt
          have hlt1 : i < cs.length := by rw [Hcl.out]; exact hlt
          have hlt2 : i < os.length := by rw [H4.out.2.2.2.2.2]; exact hlt
          have hbw5 := below2 H4.out.2.2.2.1 hb
          obtain ⟨hmax, ad, Ab, kb, eA, hadb, hrb, hcell⟩ := (HE.out.2.2.2.2.2.1.below hbw5).at_ hlt1
          obtain ⟨x, hx⟩ : ∃ x, x = cs[i] := ⟨_, rfl⟩
          obtain ⟨o, ho⟩ : ∃ o, o = os[i] := ⟨_, rfl⟩
          have hf1 := pick_take rdB cs os i hlt1 hlt2
          have hf2 := pick_take wrB cs os i hlt1 hlt2
          have hn1 := pick_le rdB cs os i
          have hn2 := pick_le wrB cs os i
          rw [← hx] at hrb hcell hf1 hf2 hmax
          rw [← ho] at hf1 hf2
          have hat := fun W (hW : Below w4.heap.size w4 W) => (H4.out.1.below hW).at_ hlt2
          rw [← ho] at hat
          have d0 : wr.cell? (ad.add (i * 4)) = some (.int .i64 x.kind) := hcell 0 _ rfl
          have d1' : wr.cell? ⟨(ad.add (i * 4)).block, (ad.add (i * 4)).off + 1, none⟩ = some (.int .i64 x.n) := by
            have := hcell 1 _ rfl
            rw [← add_of_add] at this
            exact this
          have d2' : wr.cell? ⟨(ad.add (i * 4)).block, (ad.add (i * 4)).off + 2, none⟩ = some (.int .u8 (x.delim.toNat : Int)) := by
            have := hcell 2 _ rfl
            rw [← add_of_add] at this
            exact this
          have d3 : wr.cell? ⟨(ad.add (i * 4)).block, (ad.add (i * 4)).off + 3, none⟩ = some (.slice Ab x.bytes.length kb) := by
            have := hcell 3 _ rfl
            rw [← add_of_add] at this
            exact this
          subst eA
          generalize pick rdB (cs.take i) (os.take i) = f1 at *
          generalize pick wrB (cs.take i) (os.take i) = f2 at *
          have H := Lib.hid (And.intro hr1 (And.intro hr2 (And.intro hne (And.intro hb (And.intro hat (And.intro hf1 hf2)))))); clear hr1 hr2 hne hb hmax hrb hf1 hf2 hx ho hcell hadb hat hbw5
          by_cases hrd : rdB x = true
          · have hwb : wrB x = false := by
              have h1 := (rdB_iff x).1 hrd
              rcases hh : wrB x with _ | _
              · rfl
              · have h2 := (wrB_iff x).1 hh
                unfold isRd at h1
                unfold isWr at h2
                omega
            go_wp2_with fail
            refine (isReading_is x Ab kb _ true hrd).mono ?_
            rintro e v1 ⟨rfl, hv1⟩
            have hin := ap_in wr x Ab kb hv1
            clear hv1 d0 d1' d2' d3
            have e0 : v1.cell? ⟨wr.heap.size, 0, none⟩ = some (.int .i64 x.kind) := hin.2.cell 0
            have e1 : v1.cell? ⟨wr.heap.size, 1, none⟩ = some (.int .i64 x.n) := hin.2.cell 1
            have e2 : v1.cell? ⟨wr.heap.size, 2, none⟩ = some (.int .u8 (x.delim.toNat : Int)) := hin.2.cell 2
            have e3 : v1.cell? ⟨wr.heap.size, 3, none⟩ = some (.slice Ab x.bytes.length kb) := hin.2.cell 3
            have Hin := Lib.hid hin; clear hin
            have hbW : Below w4.heap.size w4 v1 := below2 H.out.2.2.2.1 Hin.out.1
            obtain ⟨ad3, Ao, ko, eo, hao, x0, x1, x2, xr⟩ := H.out.2.2.2.2.1 v1 hbW
            obtain ⟨ad4, Ao4, ko4, eo4, hao4, x04, x14, x24, xr4⟩ := H.out.2.2.2.2.1 wr H.out.2.2.2.1
            have haeq : ad4 = ad3 := by rw [eo] at eo4; injection eo4 with h; exact h.symm
            subst haeq
            have hsame : Ao4 = Ao ∧ ko4 = ko := by
              have h1 := (Hin.out.1.cell (p := ad4.add (i * 3)) (by rw [block_of_add]; exact Nat.lt_of_lt_of_le hao H.out.2.2.2.1.size)).trans x04
              rw [x0] at h1
              injection h1 with h1
              injection h1 with h1 _ h3
              exact ⟨h1.symm, h3.symm⟩
            obtain ⟨rfl, rfl⟩ := hsame
            clear x04 x14 x24 eo4 hao4 xr
            have hbo : Below v1.heap.size v1 (v1.alloc (.cells (outCells Ao4 o.bytes.length ko4 o.n ((o.err : Nat) : Int)) 36)) := (Below.refl _ _).alloc (Nat.le_refl _) _
            have hbd := below2 Hin.out.1 hbo
            have ho4 := own_keep H.out.1.own (Keep.ofBelow hbd (fun _ => False)) (fun _ _ h => h)
            have hr4 := out_reads v1 Ao4 o.bytes.length ko4 o.n ((o.err : Nat) : Int)
            have hsz : w4.heap.size ≤ (v1.alloc (.cells (outCells Ao4 o.bytes.length ko4 o.n ((o.err : Nat) : Int)) 36)).heap.size := Nat.le_trans H.out.2.2.2.1.size hbd.size
            have hrm : Room (f1.length + 1) := by unfold Room; omega
            have hcl2 := Hin.out.2.alloc (.cells (outCells Ao4 o.bytes.length ko4 o.n ((o.err : Nat) : Int)) 36)
            have H3' := Lib.hid (And.intro ho4 (And.intro hr4 (And.intro hrm (And.intro hsz (And.intro hbd (And.intro hcl2 xr4)))))); clear ho4 hr4 hrm hsz hbo hbd hcl2 xr4 hbW
            subst eo
            simp only [outCells] at H3'
            go_wp2_with (at_builtin; refine wpList_append_any _ rfl (.tmp 91) (.tmp 96) _ rfl w4.heap.size 36 j0 _ 3 40 Tryd.underlying24 HJ.out.1 HJ.out.2.1 HJ.out.2.2.1 HJ.out.2.2.2 rfl (by omega) (.slice b1 f1.length d1) f1.length vs1 rfl H3'.out.1 _ _ 1 1 (outCells Ao4 o.bytes.length ko4 o.n ((o.err : Nat) : Int)).toList rfl H3'.out.2.1 (out_one _ _ _ _ _) H3'.out.2.2.1.len (H3'.out.2.2.1.bytes 40 (by omega)) H3'.out.2.2.2.1 ?_; intro u5 w5 hown5 hg5 hat5; obtain ⟨b5, k5', hv5⟩ := own_slice hown5; subst hv5; have hz := op_put H.out.1 H.out.2.1 H.out.2.2.1 H.out.2.2.2.1 H3'.out.2.2.2.2.1 H3'.out.2.2.2.2.2.2 hown5 hg5 hat5; have hC5 := ap_cal H3'.out.2.2.2.2.2.1 hg5 (fun k hk => (H.out.1.own.lt k hk).2); have e0 : w5.cell? ⟨wr.heap.size, 0, none⟩ = some (.int .i64 x.kind) := hC5.cell 0; have e1 : w5.cell? ⟨wr.heap.size, 1, none⟩ = some (.int .i64 x.n) := hC5.cell 1; have e2 : w5.cell? ⟨wr.heap.size, 2, none⟩ = some (.int .u8 (x.delim.toNat : Int)) := hC5.cell 2; have e3 : w5.cell? ⟨wr.heap.size, 3, none⟩ = some (.slice Ab x.bytes.length kb) := hC5.cell 3; have H5 := Lib.hid hz; clear hown5 hg5 hat5 hz hC5)
            refine (isWriting_is x Ab kb w5 false hwb).mono ?_
            rintro e v2 ⟨rfl, hv2⟩
            have hb2 : Below w5.heap.size w5 v2 := by rw [hv2]; exact (Below.refl _ _).alloc (Nat.le_refl _) _
            have H6 := Lib.hid hb2; clear hb2 hv2
            go_wp2_with fail
            go_roundg (cl - (i + 1))
            case measure => have := Hk.out; omega
            case rel =>
              obtain ⟨q1, q2, q3, q4⟩ := H5.out
              have hf1 := H.out.2.2.2.2.2.1
              have hf2 := H.out.2.2.2.2.2.2
              rw [if_pos hrd] at hf1
              rw [if_neg (by rw [hwb]; simp), List.append_nil] at hf2
              have hk6 := Keep.ofBelow H6.out (fun _ => False)
              refine ⟨i + 1, b5, k5', b2, d2, vs1 ++ (outCells Ao4 o.bytes.length ko4 o.n ((o.err : Nat) : Int)).toList, vs2, hlt1, ?_, ?_, ?_, ?_, ?_, ?_, below2 q4 H6.out, by rw [Hcl.out]⟩
              · refine congrArg (Value.int .i64) ?_
                first | rfl | omega | (rw [IntWalk.wrap64_in _ (by omega)]; rfl)
              · rw [hf1, List.length_append, List.length_singleton]
              · rw [hf2]
              · rw [hf1, List.length_append, List.length_singleton]
                exact q1.keep hk6 (fun _ _ h => h) (fun _ h => h.elim) q4.size
              · rw [hf2]
                exact q2.keep hk6 (fun _ _ h => h) (fun _ h => h.elim) q4.size
              · rw [hf1, hf2, List.length_append, List.length_singleton]
                exact q3
          · have hrd : rdB x = false := by simpa using hrd
            by_cases hwb : wrB x = true
            · go_wp2_with fail
              refine (isReading_is x Ab kb _ false hrd).mono ?_
              rintro e v1 ⟨rfl, hv1⟩
              have hin := ap_in wr x Ab kb hv1
              clear hv1 d0 d1' d2' d3
              have e0 : v1.cell? ⟨wr.heap.size, 0, none⟩ = some (.int .i64 x.kind) := hin.2.cell 0
              have e1 : v1.cell? ⟨wr.heap.size, 1, none⟩ = some (.int .i64 x.n) := hin.2.cell 1
              have e2 : v1.cell? ⟨wr.heap.size, 2, none⟩ = some (.int .u8 (x.delim.toNat : Int)) := hin.2.cell 2
              have e3 : v1.cell? ⟨wr.heap.size, 3, none⟩ = some (.slice Ab x.bytes.length kb) := hin.2.cell 3
              have Hin0 := Lib.hid hin; clear hin
              go_wp2_with fail
              refine (isWriting_is x Ab kb _ true hwb).mono ?_
              rintro e v2 ⟨rfl, hv2⟩
              have hin : Below wr.heap.size wr v2 ∧ Blk v2 wr.heap.size 34 (callCells x Ab kb) := by
                rw [hv2]
                exact ⟨Hin0.out.1.alloc Hin0.out.1.size _, Hin0.out.2.alloc _⟩
              clear hv2 e0 e1 e2 e3
              have Hin := Lib.hid hin; clear hin Hin0
              have hbW : Below w4.heap.size w4 v2 := below2 H.out.2.2.2.1 Hin.out.1
              obtain ⟨ad3, Ao, ko, eo, hao, x0, x1, x2, xr⟩ := H.out.2.2.2.2.1 v2 hbW
              obtain ⟨ad4, Ao4, ko4, eo4, hao4, x04, x14, x24, xr4⟩ := H.out.2.2.2.2.1 wr H.out.2.2.2.1
              have haeq : ad4 = ad3 := by rw [eo] at eo4; injection eo4 with h; exact h.symm
              subst haeq
              have hsame : Ao4 = Ao ∧ ko4 = ko := by
                have h1 := (Hin.out.1.cell (p := ad4.add (i * 3)) (by rw [block_of_add]; exact Nat.lt_of_lt_of_le hao H.out.2.2.2.1.size)).trans x04
                rw [x0] at h1
                injection h1 with h1
                injection h1 with h1 _ h3
                exact ⟨h1.symm, h3.symm⟩
              obtain ⟨rfl, rfl⟩ := hsame
              clear x04 x14 x24 eo4 hao4 xr
              have hbo : Below v2.heap.size v2 (v2.alloc (.cells (outCells Ao4 o.bytes.length ko4 o.n ((o.err : Nat) : Int)) 36)) := (Below.refl _ _).alloc (Nat.le_refl _) _
              have hbd := below2 Hin.out.1 hbo
              have ho4 := own_keep H.out.2.1.own (Keep.ofBelow hbd (fun _ => False)) (fun _ _ h => h)
              have hr4 := out_reads v2 Ao4 o.bytes.length ko4 o.n ((o.err : Nat) : Int)
              have hsz : w4.heap.size ≤ (v2.alloc (.cells (outCells Ao4 o.bytes.length ko4 o.n ((o.err : Nat) : Int)) 36)).heap.size := Nat.le_trans H.out.2.2.2.1.size hbd.size
              have hrm : Room (f2.length + 1) := by unfold Room; omega
              have hcl2 := Hin.out.2.alloc (.cells (outCells Ao4 o.bytes.length ko4 o.n ((o.err : Nat) : Int)) 36)
              have H3' := Lib.hid (And.intro ho4 (And.intro hr4 (And.intro hrm (And.intro hsz (And.intro hbd (And.intro hcl2 xr4)))))); clear ho4 hr4 hrm hsz hbo hbd hcl2 xr4 hbW
              subst eo
              simp only [outCells] at H3'
              go_wp2_with (at_builtin; refine wpList_append_any _ rfl (.tmp 100) (.tmp 105) _ rfl w4.heap.size 36 j0 _ 3 40 Tryd.underlying24 HJ.out.1 HJ.out.2.1 HJ.out.2.2.1 HJ.out.2.2.2 rfl (by omega) (.slice b2 f2.length d2) f2.length vs2 rfl H3'.out.1 _ _ 1 1 (outCells Ao4 o.bytes.length ko4 o.n ((o.err : Nat) : Int)).toList rfl H3'.out.2.1 (out_one _ _ _ _ _) H3'.out.2.2.1.len (H3'.out.2.2.1.bytes 40 (by omega)) H3'.out.2.2.2.1 ?_; intro u5 w5 hown5 hg5 hat5; obtain ⟨b5, k5', hv5⟩ := own_slice hown5; subst hv5; have hz := op_put H.out.2.1 H.out.1 (ap_swap H.out.2.2.1) H.out.2.2.2.1 H3'.out.2.2.2.2.1 H3'.out.2.2.2.2.2.2 hown5 hg5 hat5; have hC5 := ap_cal H3'.out.2.2.2.2.2.1 hg5 (fun k hk => (H.out.2.1.own.lt k hk).2); have e0 : w5.cell? ⟨wr.heap.size, 0, none⟩ = some (.int .i64 x.kind) := hC5.cell 0; have e1 : w5.cell? ⟨wr.heap.size, 1, none⟩ = some (.int .i64 x.n) := hC5.cell 1; have e2 : w5.cell? ⟨wr.heap.size, 2, none⟩ = some (.int .u8 (x.delim.toNat : Int)) := hC5.cell 2; have e3 : w5.cell? ⟨wr.heap.size, 3, none⟩ = some (.slice Ab x.bytes.length kb) := hC5.cell 3; have H5 := Lib.hid hz; clear hown5 hg5 hat5 hz hC5)
              go_roundg (cl - (i + 1))
              case measure => have := Hk.out; omega
              case rel =>
                obtain ⟨q1, q2, q3, q4⟩ := H5.out
                have hf1 := H.out.2.2.2.2.2.1
                have hf2 := H.out.2.2.2.2.2.2
                rw [if_pos hwb] at hf2
                rw [if_neg (by rw [hrd]; simp), List.append_nil] at hf1
                refine ⟨i + 1, b1, d1, b5, k5', vs1, vs2 ++ (outCells Ao4 o.bytes.length ko4 o.n ((o.err : Nat) : Int)).toList, hlt1, ?_, ?_, ?_, ?_, ?_, ?_, q4, by rw [Hcl.out]⟩
                · refine congrArg (Value.int .i64) ?_
                  first | rfl | omega | (rw [IntWalk.wrap64_in _ (by omega)]; rfl)
                · rw [hf1]
                · rw [hf2, List.length_append, List.length_singleton]
                · rw [hf1]
                  exact q2
                · rw [hf2, List.length_append, List.length_singleton]
                  exact q1
                · rw [hf1, hf2, List.length_append, List.length_singleton]
                  exact ap_swap q3
            · have hwb : wrB x = false := by simpa using hwb
              go_wp2_with fail
              refine (isReading_is x Ab kb _ false hrd).mono ?_
              rintro e v1 ⟨rfl, hv1⟩
              have hin := ap_in wr x Ab kb hv1
              clear hv1 d0 d1' d2' d3
              have e0 : v1.cell? ⟨wr.heap.size, 0, none⟩ = some (.int .i64 x.kind) := hin.2.cell 0
              have e1 : v1.cell? ⟨wr.heap.size, 1, none⟩ = some (.int .i64 x.n) := hin.2.cell 1
              have e2 : v1.cell? ⟨wr.heap.size, 2, none⟩ = some (.int .u8 (x.delim.toNat : Int)) := hin.2.cell 2
              have e3 : v1.cell? ⟨wr.heap.size, 3, none⟩ = some (.slice Ab x.bytes.length kb) := hin.2.cell 3
              have Hin0 := Lib.hid hin; clear hin
              go_wp2_with fail
              refine (isWriting_is x Ab kb _ false hwb).mono ?_
              rintro e v2 ⟨rfl, hv2⟩
              have hb2 : Below wr.heap.size wr v2 := by
                rw [hv2]
                exact Hin0.out.1.alloc Hin0.out.1.size _
              have H6 := Lib.hid hb2; clear hb2 hv2 Hin0
              go_wp2_with fail
              go_roundg (cl - (i + 1))
              case measure => have := Hk.out; omega
              case rel =>
                have hf1 := H.out.2.2.2.2.2.1
                have hf2 := H.out.2.2.2.2.2.2
                rw [if_neg (by rw [hrd]; simp), List.append_nil] at hf1
                rw [if_neg (by rw [hwb]; simp), List.append_nil] at hf2
                have hk6 := Keep.ofBelow H6.out (fun _ => False)
                refine ⟨i + 1, b1, d1, b2, d2, vs1, vs2, hlt1, ?_, ?_, ?_, ?_, ?_, ?_, below2 H.out.2.2.2.1 H6.out, by rw [Hcl.out]⟩
                · refine congrArg (Value.int .i64) ?_
                  first | rfl | omega | (rw [IntWalk.wrap64_in _ (by omega)]; rfl)
                · rw [hf1]
                · rw [hf2]
                · rw [hf1]
                  exact H.out.1.keep hk6 (fun _ _ h => h) (fun _ h => h.elim) H.out.2.2.2.1.size
                · rw [hf2]
                  exact H.out.2.1.keep hk6 (fun _ _ h => h) (fun _ h => h.elim) H.out.2.2.2.1.size
                · rw [hf1, hf2]
                  exact H.out.2.2.1
        · have hd2 : decide (i < cl) = false := by simpa using hlt
          have hta : cs.take i = cs := List.take_of_length_le (by rw [Hcl.out]; omega)
          have htb : os.take i = os := List.take_of_length_le (by rw [H4.out.2.2.2.2.2]; omega)
          rw [hta, htb, HP.out.1] at hr1
          rw [hta, htb, HP.out.2] at hr2
          rw [hta, htb, HP.out.1, HP.out.2]
          have hro : ∀ p, (pick p cs os).length ≤ cl := fun p => by
            have := pick_le p cs os i
            rw [hta, htb] at this
            omega
          have hp1 : p1.length ≤ cl := by rw [← HP.out.1]; exact hro rdB
          have hp2 : p2.length ≤ cl := by rw [← HP.out.2]; exact hro wrB
          have s1 := same24 b1 a5 d1 k5 p1 wr (hr1.sl rfl hb.size) (H4.out.2.1.below hb) (by unfold Room; omega)
          have s2 := fun k => same24 b2 a7 d2 k7 p2 (wr.drewN k) ((hr2.sl rfl hb.size).drewN k) ((H4.out.2.2.1.below hb).drewN k) (by unfold Room; omega)
          have H5 := Lib.hid (And.intro s1 (And.intro s2 hb)); clear s1 s2 hb hr1 hr2 hne hta htb hro
          generalize p1.length = l1 at *
          generalize p2.length = l2 at *
          go_wp2_with fail
          refine H5.out.1.mono ?_
          rintro e w6 ⟨rfl, k, rfl⟩
          go_wp2_with fail
          refine (H5.out.2.1 k).mono ?_
          rintro e w7 ⟨rfl, k', rfl⟩
          go_wp2_with fail
          go_ret
          exact ⟨rfl, below_drewN (below2 H4.out.2.2.2.1 H5.out.2.2) _⟩
end Go.Proofs.YtancmlapnhccdaaDoor
