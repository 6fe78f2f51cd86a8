/- The thin package's ReadFrom: what was written in front, then all pieces. -/
import Derived.Test.YtancmlapnhccdaaDoorRrn
import Derived.Test.YtancmlapnhccdaaDoorRfm
namespace Go.Proofs.YtancmlapnhccdaaDoor
open Go.RowKit

theorem no_piecesI (w : World) (B : Nat) (A : Option Addr) : PiecesAt w B A [] := ⟨[], Reads.none_, fun j p hj => by simp at hj⟩
theorem below2' {w w1 w2 : World} (h1 : Below w.heap.size w w1) (h2 : Below w1.heap.size w1 w2) : Below w.heap.size w w2 := h1.trans (h2.mono h1.size)
/-- a ReadWriter whose writer is looked at; all its blocks are new since w0 -/
structure RwAt (w0 w : World) (RW R0 : Nat) (L : WL) (t : WS) (v : Value) : Prop where
  wtr : WtrAt w L t v
  rw : Blk w RW 74 #[.pointer (some ⟨R0, 0, none⟩), .pointer (some ⟨L.W, 0, none⟩)]
  nRW : ¬ wtX L v RW
  below : Below w0.heap.size w0 w
  bN : w0.heap.size ≤ L.N
theorem rw_made {E : Nat → Addr} {n : Nat} (hn : n ≤ 255) {ps : List (List UInt8)} {w w1 : World} {RW W WB : Nat} {L : RL} (hm : MadeB w.heap.size E n ps w.heap.size (w.alloc (.cells #[.slice none 0 0] 63)) RW W WB L w1) :
    RwAt w w1 RW L.R ⟨W, WB, w.heap.size, w.heap.size⟩ ⟨zeros (wsize n), 0, []⟩ (.slice none 0 0) := by
  have hb0 : Below w.heap.size w (w.alloc (.cells #[.slice none 0 0] 63)) := (Below.refl _ _).alloc (Nat.le_refl _) _
  have hb : Below w.heap.size w w1 := hb0.trans (hm.below.mono (by simp))
  have hK : Blk w1 w.heap.size 63 #[.slice none 0 0] := (Blk.new w 63 _).below hm.below (by simp)
  have hz : (zeros (wsize n)).length = wsize n := zeros_length _
  have hs : 1 ≤ wsize n ∧ wsize n ≤ 4096 := by unfold wsize; split <;> omega
  have hsz : w.heap.size + 1 ≤ RW := by have := hm.bRW; simpa using this
  have hsW : w.heap.size + 1 ≤ W := by have := hm.bW; simpa using this
  have hsB : w.heap.size + 1 ≤ WB := by have := hm.bWB; simpa using this
  have hRW1 : RW ≠ W := hm.rw.ne_ hm.wtr (by decide)
  have hRW2 : RW ≠ WB := hm.rw.ne_ hm.wbuf (by decide)
  refine ⟨⟨?_, hm.wbuf, ⟨hK, rfl, .inl ⟨rfl, rfl⟩⟩, by simp [Value.ownBlock], Nat.zero_le _, by simp only [hz]; exact hs.1, by simp only [hz]; exact hs.2, by show w.heap.size ≤ W; omega, by show w.heap.size ≤ WB; omega, Nat.le_refl _, hb.size⟩, hm.rw, ?_, hb, Nat.le_refl _⟩
  · simp only [hz]; exact hm.wtr
  · rintro (e | e | e | e)
    · exact hRW1 e
    · exact hRW2 e
    · simp only at e; omega
    · simp [Value.ownBlock] at e
section
variable {w0 w w' : World} {RW R0 : Nat} {L : WL} {t t' : WS} {v v' : Value}
theorem RwAt.more (h : RwAt w0 w RW R0 L t v) (hb : Below w.heap.size w w') : RwAt w0 w' RW R0 L t v :=
  ⟨h.wtr.keep (Keep.ofBelow hb (fun _ => False)) (fun _ h => h.elim), h.rw.below hb h.rw.lt, h.nRW, below2' h.below hb, h.bN⟩
theorem RwAt.next (h : RwAt w0 w RW R0 L t v) (hn : WNext L t' v w w') : ∃ v', RwAt w0 w' RW R0 L t' v' ∧ Keep (wtX L v) w w' ∧ (∀ k, v'.ownBlock = some k → v.ownBlock = some k ∨ w.heap.size ≤ k) := by
  obtain ⟨v', h1, h2, h3⟩ := hn
  refine ⟨v', ⟨h1, h.rw.keep h3 h.nRW, fun hx => ?_, h.below.trans (h3.below (fun k hx => Nat.le_trans h.bN (h.wtr.ge k hx)) h.below.size), h.bN⟩, h3, h2⟩
  rcases wtX_next h2 RW hx with e | e
  · exact h.nRW e
  · have := h.rw.lt; omega
end
/-- behind append([]byte{}, front...) -/
theorem rw_new {w0 w1 w3 : World} {RW R0 : Nat} {L : WL} {t : WS} {v v3 : Value} {n : Nat} {bs : List UInt8} (hn : n = bs.length) (h : RwAt w0 w1 RW R0 L t v) (ho : w3.ownsRow w1.heap.size 5 1 v3 (0 + n) ([] ++ bvs bs))
    (hg : ((w1.alloc (.cells #[] 5)).drew).grownBy w3 (Value.slice (some ⟨w1.heap.size, 0, none⟩) 0 0).ownBlock) (hat : v3.ownBlock = (Value.slice (some ⟨w1.heap.size, 0, none⟩) 0 0).ownBlock ∨ v3.ownBlock = some ((w1.alloc (.cells #[] 5)).drew).heap.size) :
    ∃ g3 c3, v3 = .slice (some ⟨g3, 0, none⟩) bs.length c3 ∧ RwAt w0 w3 RW R0 L t v ∧ Below w1.heap.size w1 w3 ∧ RowAt w3 g3 0 bs ∧ g3 < w3.heap.size ∧ ¬ wtX L v g3 ∧ bs.length ≤ c3 := by
  simp only [Nat.zero_add, List.nil_append] at ho
  have hbl : Below w1.heap.size w1 w3 := (((Below.refl _ _).alloc (Nat.le_refl _) _).drew).grown hg (by simp) (fun k hk => by simp [Value.ownBlock] at hk; omega)
  have hne : v3.ownBlock ≠ none := by rcases hat with e | e <;> rw [e] <;> simp [Value.ownBlock]
  have hlt := ho.lt
  rcases ho.2 with ⟨rfl, _⟩ | ⟨g3, c3, cur, rfl, hbg, hg3, hnc, hcm, hcs, htk⟩
  · exact absurd rfl hne
  · have hge : w1.heap.size ≤ g3 := (hlt g3 rfl).1
    refine ⟨g3, c3, by rw [hn], h.more hbl, hbl, ?_, (hlt g3 rfl).2, fun hx => ?_, by omega⟩
    · intro j x hj
      have hrd := Reads.of_own ho
      have hjl : j < bs.length := (List.getElem?_eq_some_iff.1 hj).1
      obtain ⟨ad, e, _, hc⟩ := hrd.2 (by omega)
      injection e with e
      subst e
      have := hc j (bv x) (by rw [bvs_get, hj]; rfl)
      rw [add_mk] at this
      exact this
    · have := h.wtr.lt g3 hx
      omega
/-- a new source behind append([][]byte{}, pieces...) -/
theorem src_new {w0 w1 w4 : World} {v4 : Value} {vs : List Value} {ps : List (List UInt8)} (h0 : Below w0.heap.size w0 w1) (hps : ∀ (j : Nat) (p : List UInt8), ps[j]? = some p → ∃ v, vs[j]? = some v ∧ PieceAt w0 w0.heap.size v p)
    (ho : w4.ownsRow w1.heap.size 25 1 v4 (0 + ps.length) ([] ++ vs)) (hg : ((w1.alloc (.cells #[] 25)).drew).grownBy w4 (Value.slice (some ⟨w1.heap.size, 0, none⟩) 0 0).ownBlock) (hat : v4.ownBlock = (Value.slice (some ⟨w1.heap.size, 0, none⟩) 0 0).ownBlock ∨ v4.ownBlock = some ((w1.alloc (.cells #[] 25)).drew).heap.size) :
    ∃ P k4, v4 = .slice (some ⟨P, 0, none⟩) ps.length k4 ∧ Below w1.heap.size w1 w4 ∧ w1.heap.size ≤ P ∧ SrcAt (w4.alloc (.cells #[.slice (some ⟨P, 0, none⟩) ps.length k4] 81)) w4.heap.size P w0.heap.size ps := by
  simp only [Nat.zero_add, List.nil_append] at ho
  have hbl : Below w1.heap.size w1 w4 := (((Below.refl _ _).alloc (Nat.le_refl _) _).drew).grown hg (by simp) (fun k hk => by simp [Value.ownBlock] at hk; omega)
  have hne : v4.ownBlock ≠ none := by rcases hat with e | e <;> rw [e] <;> simp [Value.ownBlock]
  have hlt := ho.lt
  rcases ho.2 with ⟨rfl, _⟩ | ⟨P, k4, cur, rfl, hbg, hg4, hnc, hcm, hcs, htk⟩
  · exact absurd rfl hne
  · have hge : w1.heap.size ≤ P := (hlt P rfl).1
    obtain ⟨row⟩ := cur
    have hbw : Below w0.heap.size w0 (w4.alloc (.cells #[.slice (some ⟨P, 0, none⟩) ps.length k4] 81)) := (h0.trans (hbl.mono h0.size)).alloc (Nat.le_trans h0.size hbl.size) _
    have hPB : Blk (w4.alloc (.cells #[.slice (some ⟨P, 0, none⟩) ps.length k4] 81)) P 25 row.toArray := Blk.alloc (cs := row.toArray) hg4 _
    simp only [Nat.mul_one, List.size_toArray] at hcs htk
    refine ⟨P, k4, rfl, hbl, hge, some ⟨P, 0, none⟩, k4, 0, row, Blk.new w4 81 _, hPB, hnc, hcm, by omega, fun _ => rfl, fun j p hj => ?_⟩
    obtain ⟨v, hv, hpc⟩ := hps j p hj
    refine ⟨v, ?_, hpc.below hbw⟩
    rw [← htk, List.getElem?_take] at hv
    split at hv
    · rw [Nat.zero_add]; exact hv
    · cases hv

/-- the writer and the new source, as ReadFrom wants them -/
theorem rf_ok {E : Nat → Addr} {w0 w5 w6 : World} {RW R0 P k6 : Nat} {L : WL} {t : WS} {v : Value} {ps : List (List UInt8)} (h : RwAt w0 w5 RW R0 L t v) (hE : Env w0 w0.heap.size E) (hN : L.N = w0.heap.size) (hb : Below w5.heap.size w5 w6) (hP : w5.heap.size ≤ P) (hs : SrcAt (w6.alloc (.cells #[.slice (some ⟨P, 0, none⟩) ps.length k6] 81)) w6.heap.size P w0.heap.size ps) :
    RfOk (w6.alloc (.cells #[.slice (some ⟨P, 0, none⟩) ps.length k6] 81)) E L t v w6.heap.size P w0.heap.size ps ∧ RwAt w0 (w6.alloc (.cells #[.slice (some ⟨P, 0, none⟩) ps.length k6] 81)) RW R0 L t v := by
  have hb2 : Below w5.heap.size w5 (w6.alloc (.cells #[.slice (some ⟨P, 0, none⟩) ps.length k6] 81)) := hb.alloc hb.size _
  have h2 := h.more hb2
  have h3 := h.below.size
  have h4 := hb.size
  refine ⟨⟨h2.wtr, hs, hE.below h2.below, by omega, by omega, by omega, h2.below.size, fun hx => ?_, fun hx => ?_⟩, h2⟩
  · have := h.wtr.lt _ hx; omega
  · have := h.wtr.lt _ hx; omega
/-- behind ReadFrom -/
theorem rf_next {E : Nat → Addr} {w0 w6 w7 : World} {RW R0 P k6 : Nat} {L : WL} {t t' : WS} {v v' : Value} {ps : List (List UInt8)} {w5s : Nat} (h : RwAt w0 (w6.alloc (.cells #[.slice (some ⟨P, 0, none⟩) ps.length k6] 81)) RW R0 L t v) (hP : w5s ≤ P ∧ RW < w5s ∧ w5s ≤ w6.heap.size) (ha : RfAt (w6.alloc (.cells #[.slice (some ⟨P, 0, none⟩) ps.length k6] 81)) E L t v w6.heap.size P w0.heap.size ps t' v' [] w7) : RwAt w0 w7 RW R0 L t' v' := by
  have hnx : ¬ rfX L v w6.heap.size P RW := by
    rintro (e | e | e)
    · exact h.nRW e
    · omega
    · omega
  refine ⟨ha.ok.wtr, h.rw.keep ha.keep hnx, fun hx => ?_, h.below.trans (ha.keep.below ?_ h.below.size), h.bN⟩
  · rcases wtX_next ha.row RW hx with e | e
    · exact h.nRW e
    · have := h.rw.lt; omega
  · rintro k (e | e | e)
    · exact Nat.le_trans h.bN (h.wtr.ge k e)
    · rw [e]; exact ha.ok.bS
    · rw [e]; exact ha.ok.bP

/-- what impl.ReadFrom gives -/
def Rf26 (front all : List UInt8) (w : World) (e : Ending) (w' : World) : Prop :=
  ∃ v, e = .returned (.tuple #[v, .int .i64 (all.length : Nat), .int .i64 0]) ∧ w'.ownsRow w.heap.size 5 1 v (front ++ all).length (bvs (front ++ all)) ∧ Below w.heap.size w w'

set_option maxRecDepth 100000 in
set_option maxHeartbeats 4000000 in
theorem readFrom26 (E : Nat → Addr) (n : Nat) (hn : n ≤ 255) (A : Option Addr) (c : Nat) (front : List UInt8) (A3 : Option Addr) (c3 : Nat) (ps : List (List UInt8)) (w : World) (hE : Env w w.heap.size E) (hf : Reads w w.heap.size 1 A front.length (bvs front)) (hp : PiecesAt w w.heap.size A3 ps) (hroom : Room (front.length + ps.flatten.length + 255)) (hl : Room ps.length) :
    Calls Tryd.prog 26 #[.int .u8 (n : Nat), .slice A front.length c, .slice A3 ps.length c3] w (Rf26 front ps.flatten w) := by
  obtain ⟨j0, hj0, hy0, hy1, hy2⟩ := info_parts Tryd.info5
  have HJ := Lib.hid (And.intro hj0 (And.intro hy0 (And.intro hy1 hy2))); clear hj0 hy0 hy1 hy2
  obtain ⟨i0, hi0, hz0, hz1, hz2⟩ := info_parts Tryd.info25
  have HI := Lib.hid (And.intro hi0 (And.intro hz0 (And.intro hz1 hz2))); clear hi0 hz0 hz1 hz2
  have hb0 : Below w.heap.size w (w.alloc (.cells #[.slice none 0 0] 63)) := (Below.refl _ _).alloc (Nat.le_refl _) _
  have hsz : w.heap.size ≤ (w.alloc (.cells #[.slice none 0 0] 63)).heap.size := by simp
  have hm := madeB32 w.heap.size E n hn none 0 [] w.heap.size _ hsz (hE.below hb0) (no_piecesI _ _ _) (by simp [Room])
  obtain ⟨all, hall⟩ : ∃ all, all = ps.flatten := ⟨_, rfl⟩
  rw [← hall] at hroom ⊢
  have hrl : front.length + all.length + 255 ≤ 1000000000 := hroom
  have HE := Lib.hid (And.intro hm (And.intro hE (And.intro hf (And.intro hp (And.intro hroom (And.intro hl hall)))))); clear hE hf hp hb0 hsz hl hroom hm hall
  go_enter Tryd.func26, Tryd.ntmps26
  go_wp2_with fail
  refine HE.out.1.mono ?_
  rintro e w1 ⟨RW, W, WB, L0, rfl, hm⟩
  have hrw := rw_made hn hm
  have hEw := HE.out.2.1.below hrw.below
  obtain ⟨R0, hR0⟩ : ∃ R0, R0 = L0.R := ⟨_, rfl⟩
  rw [← hR0] at hrw
  clear hm hR0
  obtain ⟨L, hL⟩ : ∃ L : WL, L = ⟨W, WB, w.heap.size, w.heap.size⟩ := ⟨_, rfl⟩
  rw [← hL] at hrw
  have hLN : L.N = w.heap.size := by rw [hL]
  have hLK : L.K = w.heap.size := by rw [hL]
  have c1 : w1.cell? ⟨RW, 1, none⟩ = some (.pointer (some ⟨L.W, 0, none⟩)) := hrw.rw.cell 1
  have hrwz : RW < w1.heap.size := hrw.rw.lt
  have HL := Lib.hid (And.intro hLN hLK); clear hLN hLK hL
  -- Write
  have k0 := Lib.hid c1
  have ka := Lib.hid ((World.cell?_alloc_lt w1 (.cells #[] 5) ⟨RW, 1, none⟩ hrwz).trans c1)
  have hown : ((w1.alloc (.cells #[] 5)).drew).ownsRow w1.heap.size 5 1 (.slice (some ⟨w1.heap.size, 0, none⟩) 0 0) 0 [] := own_keep (World.ownsRow_made w1 #[] 0 (Nat.le_refl _) (by simp [maxLen]) (by simp)) ((Keep.refl (fun _ => False) _).drew) (fun _ _ h => h)
  have hr2 : Reads ((w1.alloc (.cells #[] 5)).drew) w.heap.size 1 A front.length (bvs front) := ((HE.out.2.2.1.below hrw.below).alloc hrw.below.size _).drew
  have hrm : Room (0 + front.length) := by rw [Nat.zero_add]; unfold Room; omega
  have hszz : w1.heap.size ≤ ((w1.alloc (.cells #[] 5)).drew).heap.size := by show w1.heap.size ≤ (w1.alloc _).heap.size; simp
  have HP := Lib.hid (And.intro hown (And.intro hr2 (And.intro (bvs_one front) (And.intro hrm hszz)))); clear hown hr2 hrm hszz
  have H1 := Lib.hid hrw; clear hrw c1 hEw
  obtain ⟨t0, ht0⟩ : ∃ t0 : WS, t0 = ⟨zeros (wsize n), 0, []⟩ := ⟨_, rfl⟩
  rw [← ht0] at H1
  have hg0 : t0.got.length = 0 ∧ t0.n = 0 := by rw [ht0]; exact ⟨rfl, rfl⟩
  have htk0 : taken t0 = [] := by rw [ht0]; simp [taken]
  have Ht0 := Lib.hid (And.intro hg0 htk0); clear hg0 htk0 ht0
  go_wp2_with fail
  go_region_held3 (fun w' => w'.cell? ⟨RW, 1, none⟩ = some (.pointer (some ⟨L.W, 0, none⟩))) (first | exact k0.out | exact ka.out | exact k2.out | exact k1.out)
    (first
      | (go_at_call 36; refine HC.out.mono ?_; rintro e w5 ⟨rfl, hn1⟩; obtain ⟨v5, hB5, hk5, hv5⟩ := H3.out.1.next hn1; have k1 := Lib.hid (hB5.rw.cell 1); have HM := Lib.hid (And.intro hB5 (And.intro hk5 hv5)); clear k0 ka k2 hB5 hv5 hk5 hn1)
      | (refine step_append_any _ (by rfl) (.tmp 22) (.tmp 23) _ (by rfl) w1.heap.size 5 j0 _ 1 1 Tryd.underlying25 HJ.out.1 HJ.out.2.1 HJ.out.2.2.1 HJ.out.2.2.2 rfl (by omega) (.slice (some ⟨w1.heap.size, 0, none⟩) 0 0) 0 [] (by rfl) HP.out.1 w.heap.size A front.length c (bvs front) (by rfl) HP.out.2.1 HP.out.2.2.1 HP.out.2.2.2.1.len (HP.out.2.2.2.1.bytes 1 (by omega)) HP.out.2.2.2.2 ?_; intro v3 w3 hown3 hg3 hat3; obtain ⟨g3, c4, rfl, hB3, hbl3, hrow3, hlt3, hnx3, hcp3⟩ := rw_new rfl H1.out hown3 hg3 hat3; have HC := Lib.hid (write36 L t0 _ front g3 0 c4 w3 hB3.wtr hrow3 hlt3 hnx3 hcp3 (by rw [Ht0.out.1.1, Ht0.out.1.2]; unfold Room; omega)); have k2 := Lib.hid (hB3.rw.cell 1); have H3 := Lib.hid (And.intro hB3 hbl3); clear hB3 hbl3 hrow3 hlt3 hnx3 hcp3 hown3 hg3 hat3)
      | fail)
  clear k1
  -- ReadFrom
  have htk1 : taken (writeM t0 front) = front := by rw [(writeM_taken t0 front H1.out.wtr.le).1, Ht0.out.2, List.nil_append]
  obtain ⟨t1, ht1⟩ : ∃ t1, t1 = writeM t0 front := ⟨_, rfl⟩
  rw [← ht1] at HM htk1
  clear ht1
  have htl1 : t1.got.length + t1.n = front.length := by
    have h1 := congrArg List.length htk1
    have h2 := HM.out.1.wtr.le
    rw [taken_len t1 h2] at h1
    exact h1
  have Htk := Lib.hid (And.intro htk1 htl1); clear htk1 htl1
  obtain ⟨vs, hrv, hps⟩ := HE.out.2.2.2.1
  have hone : ∀ u ∈ vs, u.oneCell' = true := by
    intro u hu
    obtain ⟨j, hj, rfl⟩ := List.mem_iff_getElem.1 hu
    have hl := hrv.1
    obtain ⟨v, hv, A', l', c', rfl, _⟩ := hps j (ps[j]'(by omega)) (List.getElem?_eq_getElem _)
    rw [List.getElem?_eq_getElem hj] at hv
    injection hv with hv
    rw [hv]; rfl
  have hrw5 : RW < w5.heap.size := HM.out.1.rw.lt
  have c5 : w5.cell? ⟨RW, 1, none⟩ = some (.pointer (some ⟨L.W, 0, none⟩)) := HM.out.1.rw.cell 1
  have k0 := Lib.hid c5
  have ka := Lib.hid ((World.cell?_alloc_lt w5 (.cells #[] 25) ⟨RW, 1, none⟩ hrw5).trans c5)
  have hown : ((w5.alloc (.cells #[] 25)).drew).ownsRow w5.heap.size 25 1 (.slice (some ⟨w5.heap.size, 0, none⟩) 0 0) 0 [] := own_keep (World.ownsRow_made w5 #[] 0 (Nat.le_refl _) (by simp [maxLen]) (by simp)) ((Keep.refl (fun _ => False) _).drew) (fun _ _ h => h)
  have hr2 : Reads ((w5.alloc (.cells #[] 25)).drew) w.heap.size 1 A3 ps.length vs := ((hrv.below HM.out.1.below).alloc HM.out.1.below.size _).drew
  have hrm : Room (0 + ps.length) := by rw [Nat.zero_add]; exact HE.out.2.2.2.2.2.1
  have hszz : w5.heap.size ≤ ((w5.alloc (.cells #[] 25)).drew).heap.size := by show w5.heap.size ≤ (w5.alloc _).heap.size; simp
  have HP2 := Lib.hid (And.intro hown (And.intro hr2 (And.intro hone (And.intro hrm (And.intro hszz hps))))); clear hown hr2 hrm hszz hone hps hrv c5
  go_wp2_with fail
  go_region_held3 (fun w' => w'.cell? ⟨RW, 1, none⟩ = some (.pointer (some ⟨L.W, 0, none⟩))) (first | exact k0.out | exact ka.out | exact k2.out | exact kb.out | exact k1.out)
    (first
      | (go_at_call 37; refine HC2.out.mono ?_; rintro e w7 ⟨he, s7, v7, hat7⟩; rw [← HE.out.2.2.2.2.2.2] at he; subst he; have hB7 := rf_next H6.out.1 H6.out.2 hat7; have k1 := Lib.hid (hB7.rw.cell 1); have H7 := Lib.hid (And.intro hB7 hat7.all); clear hB7 hat7 k0 ka k2 kb)
      | (refine step_append_any _ (by rfl) (.tmp 31) (.tmp 32) _ (by rfl) w5.heap.size 25 i0 _ 1 24 Tryd.underlying22 HI.out.1 HI.out.2.1 HI.out.2.2.1 HI.out.2.2.2 rfl (by omega) (.slice (some ⟨w5.heap.size, 0, none⟩) 0 0) 0 [] (by rfl) HP2.out.1 w.heap.size A3 ps.length c3 vs (by rfl) HP2.out.2.1 HP2.out.2.2.1 HP2.out.2.2.2.1.len (HP2.out.2.2.2.1.bytes 24 (by omega)) HP2.out.2.2.2.2.1 ?_; intro v6 w6 hown6 hg6 hat6; obtain ⟨P, k6, rfl, hbl6, hgeP, hsrc6⟩ := src_new HM.out.1.below HP2.out.2.2.2.2.2 hown6 hg6 hat6; have hok6 := rf_ok HM.out.1 HE.out.2.1 HL.out.1 hbl6 hgeP hsrc6; have k2 := Lib.hid ((hbl6.cell (p := ⟨RW, 1, none⟩) hrw5).trans k0.out); have kb := Lib.hid (hok6.2.rw.cell 1); have HC2 := Lib.hid (readFrom37 E L t1 _ w6.heap.size P w.heap.size ps _ hok6.1 (by rw [Htk.out.2, ← HE.out.2.2.2.2.2.2]; unfold Room; omega)); have H6 := Lib.hid (And.intro hok6.2 (And.intro hgeP (And.intro hrw5 hbl6.size))); clear hbl6 hgeP hsrc6 hok6 hown6 hg6 hat6)
      | fail)
  clear k1
  have hallt : taken s7 = front ++ all := by
    have := H7.out.2
    rw [List.flatten_nil, List.append_nil, Htk.out.1, ← HE.out.2.2.2.2.2.2] at this
    exact this
  have htl7 : s7.got.length + s7.n = front.length + all.length := by
    have h1 := congrArg List.length hallt
    rw [taken_len s7 H7.out.1.wtr.le, List.length_append] at h1
    exact h1
  have c7 : w7.cell? ⟨RW, 1, none⟩ = some (.pointer (some ⟨L.W, 0, none⟩)) := H7.out.1.rw.cell 1
  have Ht7 := Lib.hid (And.intro hallt htl7); clear hallt htl7
  go_wp2_with fail
  refine (flush38 L s7 v7 w7 H7.out.1.wtr (by rw [Ht7.out.2]; unfold Room; omega)).mono ?_
  rintro e w8 ⟨rfl, hn8⟩
  obtain ⟨v8, hB8, _, _⟩ := H7.out.1.next hn8
  have hsn := hB8.wtr.snk
  rw [HL.out.1, HL.out.2] at hsn
  have hgot : (flushM s7).got = front ++ all := Ht7.out.1
  rw [hgot] at hsn
  obtain ⟨a8, k8, rfl⟩ := own_slice hsn.2
  have c8 : w8.cell? ⟨w.heap.size, 0, none⟩ = some (.slice a8 (front ++ all).length k8) := hsn.1.cell 0
  have H8 := Lib.hid (And.intro hsn hB8.below); clear hsn hB8 hn8 hgot c7
  obtain ⟨m, hm⟩ : ∃ m, m = (front ++ all).length := ⟨_, rfl⟩
  rw [← hm] at c8
  have Hm := Lib.hid hm; clear hm
  go_wp2_with fail
  go_quiet (first | (go_at_call 35; refine Calls.quiet_of_same ((code_0 _).mono fun _ _ h => ⟨h.1, h.2.symm⟩)))
  go_wp2_with fail
  go_ret3
  refine ⟨.slice a8 (front ++ all).length k8, by rw [← Hm.out]; rfl, own_keep H8.out.1.2 ((Keep.refl (fun _ => False) w8).drewN nq) (fun _ _ h => h), below_drewN H8.out.2 _⟩
end Go.Proofs.YtancmlapnhccdaaDoor
