/- Joined by merge.py out of: Mdb, Rua, Run, Rut. -/
import Derived.Test.YtancmlapnhccdaaDoorIwt
import Derived.Test.YtancmlapnhccdaaDoorRnw

/- made once more: the bound under which the pieces lie may be less than the heap. -/
namespace Go.Proofs.YtancmlapnhccdaaDoor
open Go.RowKit

structure MadeB (B0 : Nat) (E : Nat → Addr) (n : Nat) (ps : List (List UInt8)) (K : Nat) (w : World) (RW W WB : Nat) (L : RL) (w' : World) : Prop where
  B : L.B = B0
  rdr : RdrAt w' E L (newReader (rsize n) ps)
  rw : Blk w' RW 74 #[.pointer (some ⟨L.R, 0, none⟩), .pointer (some ⟨W, 0, none⟩)]
  wtr : Blk w' W 121 (wtCells WB K (wsize n) 0)
  wbuf : Blk w' WB 5 (bvs (zeros (wsize n))).toArray
  below : Below w.heap.size w w'
  nW : ¬ rdX L W
  nWB : ¬ rdX L WB
  nRW : ¬ rdX L RW
  bW : w.heap.size ≤ W
  bWB : w.heap.size ≤ WB
  bRW : w.heap.size ≤ RW

def MadeB32 (B0 : Nat) (E : Nat → Addr) (n : Nat) (ps : List (List UInt8)) (K : Nat) (w : World) (e : Ending) (w' : World) : Prop :=
  ∃ RW W WB L, e = .returned (.pointer (some ⟨RW, 0, none⟩)) ∧ MadeB B0 E n ps K w RW W WB L w'

theorem madeB_close {B0 : Nat} {E : Nat → Addr} {n K : Nat} (hn : n ≤ 255) {ps : List (List UInt8)} {w w1 : World} {a1 : Option Addr} {k1 : Nat} {vs : List Value} (hB : B0 ≤ w.heap.size) (hE : Env w B0 E)
    (hps : ∀ (j : Nat) (p : List UInt8), ps[j]? = some p → ∃ v, vs[j]? = some v ∧ PieceAt w B0 v p)
    (hown : w1.ownsRow w.heap.size 25 1 (.slice a1 ps.length k1) ps.length vs) (hb : Below w.heap.size w w1) (ha : (Value.slice a1 ps.length k1).ownBlock ≠ none) :
    ∃ L, MadeB B0 E n ps K w (w1.heap.size + 5) (w1.heap.size + 4) (w1.heap.size + 3) L (madeWorld w1 a1 ps.length k1 (rsize n) (wsize n) K) := by
  rcases hown.2 with ⟨e, _⟩ | ⟨g, cap, cur, e, hbg, hg, hnc, hcm, hcs, htk⟩
  · rw [e] at ha; exact absurd rfl ha
  have hw1 := hb.size
  obtain ⟨rfl, rfl⟩ : a1 = some ⟨g, 0, none⟩ ∧ k1 = cap := by injection e with e1 e2 e3; exact ⟨e1, e3⟩
  have hgl : g < w1.heap.size := (Array.getElem?_eq_some_iff.1 hg).1
  obtain ⟨row⟩ := cur
  have hgB : Blk w1 g 25 row.toArray := hg
  simp only [Nat.mul_one, List.size_toArray] at hcs htk
  have hbel : Below w.heap.size w (madeWorld w1 (some ⟨g, 0, none⟩) ps.length k1 (rsize n) (wsize n) K) := by
    unfold madeWorld
    exact (((((hb.alloc (by omega) _).alloc (by simp; omega) _).alloc (by simp; omega) _).alloc (by simp; omega) _).alloc (by simp; omega) _).alloc (by simp; omega) _
  have bS : Blk (madeWorld w1 (some ⟨g, 0, none⟩) ps.length k1 (rsize n) (wsize n) K) w1.heap.size 81 #[.slice (some ⟨g, 0, none⟩) ps.length k1] :=
    (((((Blk.newAt w1 81 _ rfl).alloc _).alloc _).alloc _).alloc _).alloc _
  have bR : Blk (madeWorld w1 (some ⟨g, 0, none⟩) ps.length k1 (rsize n) (wsize n) K) (w1.heap.size + 1) 112 _ :=
    ((((Blk.newAt _ 112 _ (by simp)).alloc _).alloc _).alloc _).alloc _
  have bRB : Blk (madeWorld w1 (some ⟨g, 0, none⟩) ps.length k1 (rsize n) (wsize n) K) (w1.heap.size + 2) 5 _ :=
    (((Blk.newAt _ 5 _ (by simp)).alloc _).alloc _).alloc _
  have bWB : Blk (madeWorld w1 (some ⟨g, 0, none⟩) ps.length k1 (rsize n) (wsize n) K) (w1.heap.size + 3) 5 _ :=
    ((Blk.newAt _ 5 _ (by simp)).alloc _).alloc _
  have bW : Blk (madeWorld w1 (some ⟨g, 0, none⟩) ps.length k1 (rsize n) (wsize n) K) (w1.heap.size + 4) 121 _ :=
    (Blk.newAt _ 121 _ (by simp)).alloc _
  have bRW : Blk (madeWorld w1 (some ⟨g, 0, none⟩) ps.length k1 (rsize n) (wsize n) K) (w1.heap.size + 5) 74 _ := Blk.newAt _ 74 _ (by simp)
  have bP : Blk (madeWorld w1 (some ⟨g, 0, none⟩) ps.length k1 (rsize n) (wsize n) K) g 25 row.toArray :=
    (((((hgB.alloc _).alloc _).alloc _).alloc _).alloc _).alloc _
  have hlen : (newReader (rsize n) ps).buf.length = rsize n := zeros_length _
  refine ⟨⟨w1.heap.size + 1, w1.heap.size + 2, w1.heap.size, g, B0⟩, ⟨rfl, ⟨?_, bRB, ?_, ?_, by simp; omega, by simp; omega, by simp; omega, Nat.le_trans hB hbg, Nat.le_trans hB hbel.size, hE.below (hbel.mono hB)⟩, bRW, bW, bWB, hbel, ?_, ?_, ?_, by omega, by omega, by omega⟩⟩
  · have e2 : rdCells E ⟨w1.heap.size + 1, w1.heap.size + 2, w1.heap.size, g, B0⟩ (newReader (rsize n) ps) = #[.slice (some ⟨w1.heap.size + 2, 0, none⟩) (rsize n) (rsize n), .iface 79 (.pointer (some ⟨w1.heap.size, 0, none⟩)), .int .i64 0, .int .i64 0, .nilIface, .int .i64 (-1), .int .i64 (-1)] := by
      simp only [rdCells, hlen]; rfl
    rw [e2]; exact bR
  · refine ⟨some ⟨g, 0, none⟩, k1, 0, row, bS, bP, hnc, hcm, by show 0 + ps.length ≤ row.length; omega, fun _ => rfl, fun j p hj => ?_⟩
    obtain ⟨v, hv, hpc⟩ := hps j p hj
    refine ⟨v, ?_, hpc.below (hbel.mono hB)⟩
    rw [← htk, List.getElem?_take] at hv
    split at hv
    · rw [Nat.zero_add]; exact hv
    · cases hv
  · exact ⟨Nat.le_refl _, Nat.zero_le _, by rw [hlen]; unfold rsize; omega, by rw [hlen]; unfold rsize; omega, by simp [newReader], by simp [newReader], by simp [newReader], by simp [newReader]⟩
  · rintro (e | e | e | e) <;> simp at e <;> omega
  · rintro (e | e | e | e) <;> simp at e <;> omega
  · rintro (e | e | e | e) <;> simp at e <;> omega

set_option maxHeartbeats 1000000 in
theorem madeB32 (B0 : Nat) (E : Nat → Addr) (n : Nat) (hn : n ≤ 255) (A : Option Addr) (c : Nat) (ps : List (List UInt8)) (K : Nat) (w : World) (hB : B0 ≤ w.heap.size) (hE : Env w B0 E) (hp : PiecesAt w B0 A ps) (hroom : Room ps.length) :
    Calls Tryd.prog 32 #[.int .u8 (n : Nat), .slice A ps.length c, .pointer (some ⟨K, 0, none⟩)] w (MadeB32 B0 E n ps K w) := by
  obtain ⟨vs, hr, hps⟩ := hp
  obtain ⟨i0, hi0, hz0, hz1, hz2⟩ := info_parts Tryd.info25
  have HI := Lib.hid (And.intro hi0 (And.intro hz0 (And.intro hz1 hz2))); clear hi0 hz0 hz1 hz2
  have hone : ∀ u ∈ vs, u.oneCell' = true := by
    intro u hu
    obtain ⟨j, hj, rfl⟩ := List.mem_iff_getElem.1 hu
    have hl := hr.1
    obtain ⟨v, hv, A', l', c', rfl, _⟩ := hps j (ps[j]'(by omega)) (List.getElem?_eq_getElem _)
    rw [List.getElem?_eq_getElem hj] at hv
    injection hv with hv
    rw [hv]; rfl
  have hr1 : Reads (w.alloc (.cells #[] 25)) B0 1 A ps.length vs := hr.alloc hB _
  have hown : (w.alloc (.cells #[] 25)).ownsRow w.heap.size 25 1 (.slice (some ⟨w.heap.size, 0, none⟩) 0 0) 0 [] := World.ownsRow_made w #[] 0 (Nat.le_refl _) (by simp [maxLen]) (by simp)
  have hrm : Room (0 + ps.length) := by simpa using hroom
  have hb1 : w.heap.size ≤ (w.alloc (.cells #[] 25)).heap.size := by simp
  have HH := Lib.hid (And.intro hr1 (And.intro hown (And.intro hone (And.intro hps (And.intro hE (And.intro hrm hb1)))))); clear hr1 hown hone hps hr hE hrm hb1 hroom
  go_enter Tryd.func32, Tryd.ntmps32
  go_wp2_with (at_builtin; refine wpList_append_any _ rfl (.tmp 8) (.tmp 9) _ rfl w.heap.size 25 i0 _ 1 24 Tryd.underlying22 HI.out.1 HI.out.2.1 HI.out.2.2.1 HI.out.2.2.2 rfl (by omega) (.slice (some ⟨w.heap.size, 0, none⟩) 0 0) 0 [] rfl HH.out.2.1 B0 A ps.length c vs rfl HH.out.1 HH.out.2.2.1 HH.out.2.2.2.2.2.1.len (HH.out.2.2.2.2.2.1.bytes 24 (by omega)) HH.out.2.2.2.2.2.2 ?_; intro v1 w1 hown1 hg1 hat1; obtain ⟨a1, k1, hv1⟩ := own_slice hown1; subst hv1; have H1 := Lib.hid (And.intro hown1 (And.intro hg1 hat1)); clear hown1 hg1 hat1)
  refine (newReader46 w1.heap.size n _ hn).mono ?_
  rintro e w2 ⟨rfl, rfl⟩
  go_wp2_with fail
  refine (newWriter47 K n _ hn).mono ?_
  rintro e w3 ⟨rfl, rfl⟩
  go_wp2_with fail
  refine (newRW45 _ _ _).mono ?_
  rintro e w4 ⟨rfl, rfl⟩
  go_wp2_with fail
  go_ret
  obtain ⟨hown1, hg1, hat1⟩ := H1.out
  simp only [Nat.zero_add, List.nil_append] at hown1 hat1
  have hb1 : Below w.heap.size w w1 := ((Below.refl _ _).alloc (Nat.le_refl _) _).grown hg1 (by simp) (fun k hk => by simp [Value.ownBlock] at hk; omega)
  have hne : (Value.slice a1 ps.length k1).ownBlock ≠ none := by
    rcases hat1 with e | e <;> rw [e] <;> simp [Value.ownBlock]
  obtain ⟨L, hL⟩ := madeB_close (K := K) hn hB HH.out.2.2.2.2.1 HH.out.2.2.2.1 hown1 hb1 hne
  exact ⟨w1.heap.size + 5, w1.heap.size + 4, w1.heap.size + 3, L, rfl, hL⟩
end Go.Proofs.YtancmlapnhccdaaDoor

/- impl.Run: what lies where; the plain steps. -/
namespace Go.Proofs.YtancmlapnhccdaaDoor
open Go.RowKit

/-! ### plain -/
def callsLen (cs : List CallD) : Nat := (cs.map fun c => c.bytes.length + 4).sum
theorem callsLen_take (cs : List CallD) (i : Nat) (h : i < cs.length) : callsLen (cs.take (i + 1)) = callsLen (cs.take i) + (cs[i].bytes.length + 4) := by
  unfold callsLen
  rw [List.take_add_one, List.getElem?_eq_getElem h, List.map_append, List.sum_append]
  simp
theorem callsLen_le (cs : List CallD) (i : Nat) : callsLen (cs.take i) ≤ callsLen cs := by
  have h := congrArg callsLen (List.take_append_drop i cs)
  unfold callsLen at *
  rw [List.map_append, List.sum_append] at h
  omega
theorem runM_append : ∀ (cs ds : List CallD) (s : RS) (t : WS), runM s t (cs ++ ds) = ((runM (runM s t cs).1 (runM s t cs).2.1 ds).1, (runM (runM s t cs).1 (runM s t cs).2.1 ds).2.1, (runM s t cs).2.2 ++ (runM (runM s t cs).1 (runM s t cs).2.1 ds).2.2)
  | [], ds, s, t => by simp [runM]
  | c :: cs, ds, s, t => by
    have := runM_append cs ds (callM s t c).1 (callM s t c).2.1
    simp only [List.cons_append, runM, this]
theorem runM_take (cs : List CallD) (i : Nat) (h : i < cs.length) (s : RS) (t : WS) :
    runM s t (cs.take (i + 1)) = ((callM (runM s t (cs.take i)).1 (runM s t (cs.take i)).2.1 cs[i]).1, (callM (runM s t (cs.take i)).1 (runM s t (cs.take i)).2.1 cs[i]).2.1, (runM s t (cs.take i)).2.2 ++ [(callM (runM s t (cs.take i)).1 (runM s t (cs.take i)).2.1 cs[i]).2.2]) := by
  rw [List.take_add_one, List.getElem?_eq_getElem h, Option.toList_some, runM_append]
  simp only [runM]
theorem runM_len : ∀ (cs : List CallD) (s : RS) (t : WS), (runM s t cs).2.2.length = cs.length
  | [], s, t => rfl
  | c :: cs, s, t => by simp [runM, runM_len cs]
theorem callM_shr (s : RS) (t : WS) (c : CallD) (h : s.Ok) (he : EofOk s) : Shr s (callM s t c).1 := by
  unfold callM
  split
  · exact shr_rdCall s h he c
  · split
    · exact Nat.le_refl _
    · exact Nat.le_refl _
theorem callM_taken (s : RS) (t : WS) (c : CallD) (h : t.n ≤ t.buf.length) (h1 : 1 ≤ t.buf.length) : (taken (callM s t c).2.1).length ≤ (taken t).length + (c.bytes.length + 4) := by
  unfold callM
  split
  · simp only; omega
  · split
    · have := (wrCall_taken t c h h1).1
      simp only
      rw [this, List.length_append]
      have := wrote_len c
      omega
    · simp only; omega
theorem taken_len (t : WS) (h : t.n ≤ t.buf.length) : (taken t).length = t.got.length + t.n := by
  unfold taken
  rw [List.length_append, List.length_take]
  omega

/-! ### where calls and answers lie -/
/-- a slice of calls that lies below B -/
def CallsAt (w : World) (B : Nat) (A : Option Addr) (cs : List CallD) : Prop :=
  ∃ vs : List Value, Reads w B 4 A cs.length vs ∧ ∀ (j : Nat) (c : CallD), cs[j]? = some c → c.n ≤ 9223372036854775807 ∧ ∃ Ab kb, Reads w B 1 Ab c.bytes.length (bvs c.bytes) ∧ ∀ (i : Nat) (u : Value), (callCells c Ab kb)[i]? = some u → vs[j * 4 + i]? = some u
theorem CallsAt.below {w w' : World} {B : Nat} {A : Option Addr} {cs : List CallD} (h : CallsAt w B A cs) (hb : Below B w w') : CallsAt w' B A cs := by
  obtain ⟨vs, h1, h2⟩ := h
  refine ⟨vs, h1.below hb, fun j c hj => ?_⟩
  obtain ⟨h0, Ab, kb, h3, h4⟩ := h2 j c hj
  exact ⟨h0, Ab, kb, h3.below hb, h4⟩
theorem CallsAt.at_ {w : World} {B : Nat} {A : Option Addr} {cs : List CallD} (h : CallsAt w B A cs) {i : Nat} (hi : i < cs.length) :
    cs[i].n ≤ 9223372036854775807 ∧ ∃ ad Ab kb, A = some ad ∧ ad.block < B ∧ Reads w B 1 Ab cs[i].bytes.length (bvs cs[i].bytes) ∧ ∀ (j : Nat) (u : Value), (callCells cs[i] Ab kb)[j]? = some u → w.cell? (ad.add (i * 4 + j)) = some u := by
  obtain ⟨vs, h1, h2⟩ := h
  obtain ⟨h0, Ab, kb, h3, h4⟩ := h2 i cs[i] (List.getElem?_eq_getElem hi)
  obtain ⟨ad, e, hb, hc⟩ := h1.2 (by omega)
  exact ⟨h0, ad, Ab, kb, e, hb, h3, fun j u hj => hc _ u (h4 j u hj)⟩

/-- one answer among cells; its bytes lie in no block of X -/
def OutAt (w : World) (X : Nat → Prop) (cs : List Value) (o : OutD) : Prop :=
  ∃ A c, cs = (outCells A o.bytes.length c o.n ((o.err : Nat) : Int)).toList ∧ Reads w w.heap.size 1 A o.bytes.length (bvs o.bytes) ∧ (0 < o.bytes.length → ∃ ad, A = some ad ∧ ¬ X ad.block)
theorem OutAt.keep {X Y Z : Nat → Prop} {w w' : World} {cs : List Value} {o : OutD} (h : OutAt w X cs o) (hk : Keep Y w w') (hY : ∀ k, Y k → X k) (hZ : ∀ k, Z k → X k ∨ w.heap.size ≤ k) : OutAt w' Z cs o := by
  obtain ⟨A, c, e, hr, hA⟩ := h
  refine ⟨A, c, e, ⟨hr.1, fun h0 => ?_⟩, fun h0 => ?_⟩
  · obtain ⟨ad, e1, e2⟩ := hA h0
    obtain ⟨ad', f1, f2, f3⟩ := hr.2 h0
    rw [e1] at f1
    injection f1 with f1
    subst f1
    exact ⟨ad, e1, Nat.lt_of_lt_of_le f2 hk.size, fun j u hj => (hk.cell (p := ad.add j) (by rw [block_of_add]; exact f2) (by rw [block_of_add]; exact fun hy => e2 (hY _ hy))).trans (f3 j u hj)⟩
  · obtain ⟨ad, e1, e2⟩ := hA h0
    obtain ⟨ad', f1, f2, f3⟩ := hr.2 h0
    rw [e1] at f1
    injection f1 with f1
    subst f1
    refine ⟨ad, e1, fun hz => ?_⟩
    rcases hZ _ hz with q | q
    · exact e2 q
    · omega
/-- the answers, each of three cells -/
def OutsAt (w : World) (X : Nat → Prop) (flat : List Value) (os : List OutD) : Prop := ∀ (j : Nat) (o : OutD), os[j]? = some o → OutAt w X ((flat.drop (j * 3)).take 3) o
theorem OutsAt.keep {X Y Z : Nat → Prop} {w w' : World} {flat : List Value} {os : List OutD} (h : OutsAt w X flat os) (hk : Keep Y w w') (hY : ∀ k, Y k → X k) (hZ : ∀ k, Z k → X k ∨ w.heap.size ≤ k) : OutsAt w' Z flat os :=
  fun j o hj => (h j o hj).keep hk hY hZ
theorem OutsAt.snoc {X : Nat → Prop} {w : World} {flat cs : List Value} {os : List OutD} {o : OutD} (h : OutsAt w X flat os) (hl : flat.length = os.length * 3) (hc : cs.length = 3) (ho : OutAt w X cs o) : OutsAt w X (flat ++ cs) (os ++ [o]) := by
  intro j o' hj
  rcases Nat.lt_trichotomy j os.length with hlt | rfl | hgt
  · rw [List.getElem?_append_left hlt] at hj
    have := h j o' hj
    rw [List.drop_append_of_le_length (by omega), List.take_append_of_le_length (by rw [List.length_drop]; omega)]
    exact this
  · rw [List.getElem?_append_right (Nat.le_refl _)] at hj
    simp only [Nat.sub_self, List.getElem?_cons_zero, Option.some.injEq] at hj
    subst hj
    rw [← hl, List.drop_append_of_le_length (Nat.le_refl _), List.drop_length, List.nil_append, ← hc, List.take_length]
    exact ho
  · rw [List.getElem?_eq_none (by simp; omega)] at hj
    cases hj

theorem own_own_ne {w : World} {N M n m sz sz' : Nat} {e e' : TypeId} {v v' : Value} {xs ys : List Value} (h : w.ownsRow N e sz v n xs) (h' : w.ownsRow M e' sz' v' m ys) (hne : e ≠ e') : ∀ k, v.ownBlock = some k → v'.ownBlock ≠ some k := by
  intro k hk hk'
  rcases h.2 with ⟨rfl, _⟩ | ⟨g, cap, cur, rfl, _, hg, _⟩
  · cases hk
  · have e1 : g = k := by simpa [Value.ownBlock] using hk
    subst e1
    exact own_blk_ne (cs := cur) (t := e) h' hg hne.symm hk'
end Go.Proofs.YtancmlapnhccdaaDoor

/- impl.Run: the calls, one behind the other. -/
namespace Go.Proofs.YtancmlapnhccdaaDoor
open Go.RowKit

def Ran (os : List OutD) (got : List UInt8) (w : World) (e : Ending) (w' : World) : Prop :=
  ∃ a c gv flat, e = .returned (.tuple #[.slice a os.length c, gv]) ∧ w'.ownsRow w.heap.size 36 3 (.slice a os.length c) os.length flat ∧ OutsAt w' (fun _ => False) flat os ∧ w'.ownsRow w.heap.size 5 1 gv got.length (bvs got) ∧ Below w.heap.size w w'

structure RunRel (E : Nat → Addr) (b : BL) (N : Nat) (s0 : RS) (t0 : WS) (cs : List CallD) (w0 : World) (i : Nat) (row v : Value) (flat : List Value) (wr : World) : Prop where
  both : Both wr E b (runM s0 t0 (cs.take i)).1 (runM s0 t0 (cs.take i)).2.1 v
  own : wr.ownsRow N 36 3 row i flat
  outs : OutsAt wr (fun k => boX b v k ∨ row.ownBlock = some k) flat (runM s0 t0 (cs.take i)).2.2
  below : Below b.L.B w0 wr
  size : N ≤ wr.heap.size
  src : (runM s0 t0 (cs.take i)).1.src.flatten.length ≤ s0.src.flatten.length
  tak : (taken (runM s0 t0 (cs.take i)).2.1).length ≤ callsLen (cs.take i)
structure Low (b : BL) (N : Nat) : Prop where
  r : ∀ k, rdX b.L k → k < N
  w : b.W.W < N
  wb : b.W.WB < N
  k : b.W.K < N
  rw : b.RW < N

theorem Low.row {E : Nat → Addr} {b : BL} {N : Nat} {w : World} {s : RS} {t : WS} {v row : Value} {n : Nat} {flat : List Value} (h : Low b N) (hb : Both w E b s t v) (ho : w.ownsRow N 36 3 row n flat) : ∀ k, row.ownBlock = some k → ¬ boX b v k := by
  intro k hk hx
  have hN := (ho.lt k hk).1
  rcases hx with hx | hx | hx | hx | hx
  · have := h.r k hx; omega
  · have := h.w; omega
  · have := h.wb; omega
  · have := h.k; omega
  · exact own_own_ne ho hb.wtr.snk.2 (by decide) k hk hx

/-- the sink, and what made laid -/
theorem both_made {E : Nat → Addr} {n : Nat} (hn : n ≤ 255) {ps : List (List UInt8)} {w w1 : World} {RW W WB : Nat} {L : RL} (hm : MadeB w.heap.size E n ps w.heap.size (w.alloc (.cells #[.slice none 0 0] 63)) RW W WB L w1) (ht : Lib.Utf8Tabs 9 10 w) :
    Both w1 E ⟨L, ⟨W, WB, w.heap.size, w.heap.size⟩, RW⟩ (newReader (rsize n) ps) ⟨zeros (wsize n), 0, []⟩ (.slice none 0 0) ∧ Low ⟨L, ⟨W, WB, w.heap.size, w.heap.size⟩, RW⟩ w1.heap.size ∧ Below w.heap.size w w1 := by
  have hb0 : Below w.heap.size w (w.alloc (.cells #[.slice none 0 0] 63)) := (Below.refl _ _).alloc (Nat.le_refl _) _
  have hb : Below w.heap.size w w1 := hb0.trans (hm.below.mono (by simp))
  have hK : Blk w1 w.heap.size 63 #[.slice none 0 0] := (Blk.new w 63 _).below hm.below (by simp)
  have hz : (zeros (wsize n)).length = wsize n := zeros_length _
  have hs : 1 ≤ wsize n ∧ wsize n ≤ 4096 := by unfold wsize; split <;> omega
  have hsz : w.heap.size + 1 ≤ RW := by have := hm.bRW; simpa using this
  have hsW : w.heap.size + 1 ≤ W := by have := hm.bW; simpa using this
  have hsB : w.heap.size + 1 ≤ WB := by have := hm.bWB; simpa using this
  have hkn : ¬ rdX L w.heap.size := by
    obtain ⟨A, c, o, row, q1, q2, _⟩ := hm.rdr.src
    rintro (e | e | e | e)
    · exact hK.ne_ hm.rdr.blk (by decide) e
    · exact hK.ne_ hm.rdr.buf (by decide) e
    · exact hK.ne_ q1 (by decide) e
    · exact hK.ne_ q2 (by decide) e
  have hRW1 : RW ≠ W := hm.rw.ne_ hm.wtr (by decide)
  have hRW2 : RW ≠ WB := hm.rw.ne_ hm.wbuf (by decide)
  refine ⟨⟨hm.rdr, ⟨?_, hm.wbuf, ⟨hK, rfl, .inl ⟨rfl, rfl⟩⟩, by simp [Value.ownBlock], Nat.zero_le _, by simp only [hz]; exact hs.1, by simp only [hz]; exact hs.2, by show w.heap.size ≤ W; omega, by show w.heap.size ≤ WB; omega, Nat.le_refl _, hb.size⟩, hm.rw, ?_, hm.nRW, ?_, by rw [hm.B]; exact Nat.le_refl _, by rw [hm.B]; show w.heap.size ≤ RW; omega, by simp [newReader], tabs_keep ht (Keep.ofBelow hb (fun _ => False)) (fun _ h => h.elim) ?_⟩, ⟨fun k hk => rdX_lt hm.rdr k hk, hm.wtr.lt, hm.wbuf.lt, hK.lt, hm.rw.lt⟩, hb⟩
  · simp only [hz]; exact hm.wtr
  · rintro k (e | e | e | e)
    · rw [e]; exact hm.nW
    · rw [e]; exact hm.nWB
    · rw [e]; exact hkn
    · simp [Value.ownBlock] at e
  · rintro (e | e | e | e)
    · exact hRW1 e
    · exact hRW2 e
    · simp only at e; omega
    · simp [Value.ownBlock] at e
  · have := hm.rdr.env.five
    rw [hm.B] at this
    exact this
section
variable {E : Nat → Addr} {b : BL} {N : Nat} {s0 : RS} {t0 : WS} {cs : List CallD} {w0 wr : World} {i : Nat} {row v : Value} {flat : List Value}
theorem RunRel.call (hR : RunRel E b N s0 t0 cs w0 i row v flat wr) (hi : i < cs.length) (Ab : Option Addr) (kb : Nat) (hrb : Reads wr b.L.B 1 Ab cs[i].bytes.length (bvs cs[i].bytes)) (hmax : cs[i].n ≤ 9223372036854775807) (hroom : Room (s0.src.flatten.length + 255)) (hcl : Room (callsLen cs)) :
    Calls Tryd.prog 33 #[.pointer (some ⟨b.RW, 0, none⟩), callV cs[i] Ab kb] (wr.alloc (.cells (callCells cs[i] Ab kb) 34)) (CallGave E b (runM s0 t0 (cs.take (i + 1))).1 (runM s0 t0 (cs.take (i + 1))).2.1 v (callM (runM s0 t0 (cs.take i)).1 (runM s0 t0 (cs.take i)).2.1 cs[i]).2.2 (wr.alloc (.cells (callCells cs[i] Ab kb) 34))) := by
  rw [runM_take cs i hi]
  refine call33 E b _ _ v cs[i] Ab kb _ (hR.both.below ((Below.refl _ _).alloc (Nat.le_refl _) _)) (hrb.alloc hR.both.rdr.size _) hmax (hroom.mono ?_) (hcl.mono ?_)
  · have := left_le hR.both.rdr.ok
    have := hR.src
    omega
  · have h1 := taken_len _ hR.both.wtr.le
    have h2 := hR.tak
    have h3 := callsLen_take cs i hi
    have h4 := callsLen_le cs (i + 1)
    omega

theorem RunRel.owned {s' : RS} {t' : WS} {v' : Value} {cc : Array Value} {w2 : World} (hR : RunRel E b N s0 t0 cs w0 i row v flat wr) (hlo : Low b N) (hk : Keep (boX b v) (wr.alloc (.cells cc 34)) w2) (_h2 : Both w2 E b s' t' v') : w2.ownsRow N 36 3 row i flat := by
  have hk1 : Keep (boX b v) wr w2 := ((Keep.refl _ wr).alloc _).trans hk
  exact own_keep hR.own hk1 (hlo.row hR.both hR.own)
theorem out_reads (w2 : World) (A : Option Addr) (l c : Nat) (n err : Int) : Reads (w2.alloc (.cells (outCells A l c n err) 36)) (w2.alloc (.cells (outCells A l c n err) 36)).heap.size 3 (some ⟨w2.heap.size, 0, none⟩) 1 (outCells A l c n err).toList := by
  refine ⟨rfl, fun _ => ⟨_, rfl, by simp, fun j u hj => ?_⟩⟩
  rw [add_mk, Nat.zero_add, (Blk.new w2 36 (outCells A l c n err)).cell j]
  rw [← hj, Array.getElem?_toList]
theorem out_one (A : Option Addr) (l c : Nat) (n err : Int) : ∀ u ∈ (outCells A l c n err).toList, u.oneCell' = true := by
  intro u hu
  simp only [outCells, List.mem_cons, List.not_mem_nil, or_false] at hu
  rcases hu with rfl | rfl | rfl <;> rfl

theorem RunRel.step {v' row' : Value} {cc : Array Value} {w2 w4 : World} {A : Option Addr} {c : Nat} {o : OutD} (hR : RunRel E b N s0 t0 cs w0 i row v flat wr) (hlo : Low b N) (hBN : b.L.B ≤ N) (hi : i < cs.length) (ho : o = (callM (runM s0 t0 (cs.take i)).1 (runM s0 t0 (cs.take i)).2.1 cs[i]).2.2)
    (h2 : Both w2 E b (runM s0 t0 (cs.take (i + 1))).1 (runM s0 t0 (cs.take (i + 1))).2.1 v') (hv : ∀ k, v'.ownBlock = some k → v.ownBlock = some k ∨ (wr.alloc (.cells cc 34)).heap.size ≤ k) (hk : Keep (boX b v) (wr.alloc (.cells cc 34)) w2)
    (hr : Reads w2 w2.heap.size 1 A o.bytes.length (bvs o.bytes)) (hA : 0 < o.bytes.length → ∃ ad, A = some ad ∧ (wr.alloc (.cells cc 34)).heap.size ≤ ad.block ∧ v'.ownBlock ≠ some ad.block)
    (hown : w4.ownsRow N 36 3 row' (i + 1) (flat ++ (outCells A o.bytes.length c o.n ((o.err : Nat) : Int)).toList)) (hg : (w2.alloc (.cells (outCells A o.bytes.length c o.n ((o.err : Nat) : Int)) 36)).grownBy w4 row.ownBlock)
    (hrow : row'.ownBlock = row.ownBlock ∨ row'.ownBlock = some (w2.alloc (.cells (outCells A o.bytes.length c o.n ((o.err : Nat) : Int)) 36)).heap.size) :
    RunRel E b N s0 t0 cs w0 (i + 1) row' v' (flat ++ (outCells A o.bytes.length c o.n ((o.err : Nat) : Int)).toList) w4 := by
  have hsz : (wr.alloc (.cells cc 34)).heap.size = wr.heap.size + 1 := by simp
  have hsz3 : (w2.alloc (.cells (outCells A o.bytes.length c o.n ((o.err : Nat) : Int)) 36)).heap.size = w2.heap.size + 1 := by simp
  rw [hsz] at hv hA
  rw [hsz3] at hrow
  have ho2 := hR.owned hlo hk h2
  have hk12 : Keep (boX b v) wr w2 := ((Keep.refl _ wr).alloc _).trans hk
  have hk24 : Keep (fun k => row.ownBlock = some k) w2 w4 := ((Keep.refl _ w2).alloc _).grown hg (fun k hk => .inl hk)
  have hk14 : Keep (fun k => boX b v k ∨ row.ownBlock = some k) wr w4 := (hk12.mono (fun _ h => .inl h)).trans (hk24.mono (fun _ h => .inr h))
  have s12 := hk12.size
  have s24 := hk24.size
  have hNs := hR.size
  have hbv : ∀ k, boX b v' k → boX b v k ∨ wr.heap.size ≤ k := by
    rintro k (q | q)
    · exact .inl (.inl q)
    · rcases q with q | q | q | q
      · exact .inl (.inr (.inl q))
      · exact .inl (.inr (.inr (.inl q)))
      · exact .inl (.inr (.inr (.inr (.inl q))))
      · rcases hv k q with e | e
        · exact .inl (.inr (.inr (.inr (.inr e))))
        · exact .inr (by omega)
  have hrl : ∀ k, row.ownBlock = some k → N ≤ k ∧ k < wr.heap.size := fun k hk => hR.own.lt k hk
  have hnb : ∀ k, row.ownBlock = some k → ¬ boX b v' k := hlo.row h2 ho2
  rw [runM_take cs i hi] at h2
  refine ⟨?_, hown, ?_, ?_, by omega, ?_, ?_⟩
  · rw [runM_take cs i hi]
    exact h2.still hk24 (fun k hk => ⟨Nat.le_trans hBN (hrl k hk).1, hnb k hk, fun e => by have := hlo.rw; have := (hrl k hk).1; omega⟩)
  · rw [runM_take cs i hi]
    have hlen : flat.length = (runM s0 t0 (cs.take i)).2.2.length * 3 := by
      rw [runM_len, List.length_take, Nat.min_eq_left (by omega)]
      exact hR.own.1
    refine OutsAt.snoc (hR.outs.keep hk14 (fun _ h => h) ?_) hlen rfl ?_
    · rintro k (q | q)
      · rcases hbv k q with e | e
        · exact .inl (.inl e)
        · exact .inr e
      · rcases hrow with e | e
        · rw [e] at q; exact .inl (.inr q)
        · rw [e] at q; injection q; exact .inr (by omega)
    · rw [← ho]
      have hnew : OutAt w2 (fun k => boX b v' k ∨ row.ownBlock = some k) (outCells A o.bytes.length c o.n ((o.err : Nat) : Int)).toList o := by
        refine ⟨A, c, rfl, hr, fun h0 => ?_⟩
        obtain ⟨ad, e1, e2, e3⟩ := hA h0
        refine ⟨ad, e1, ?_⟩
        rintro (q | q)
        · rcases q with q | q | q | q | q
          · have := hlo.r _ q; omega
          · have := hlo.w; omega
          · have := hlo.wb; omega
          · have := hlo.k; omega
          · exact e3 q
        · have := hrl _ q; omega
      refine hnew.keep hk24 (fun _ h => .inr h) ?_
      rintro k (q | q)
      · exact .inl (.inl q)
      · rcases hrow with e | e
        · rw [e] at q; exact .inl (.inr q)
        · rw [e] at q; injection q; exact .inr (by omega)
  · refine hR.below.trans (hk14.below ?_ (Nat.le_trans hBN hNs))
    rintro k (q | q)
    · exact hR.both.ge k q
    · exact Nat.le_trans hBN (hrl k q).1
  · rw [runM_take cs i hi]
    have := callM_shr (runM s0 t0 (cs.take i)).1 (runM s0 t0 (cs.take i)).2.1 cs[i] hR.both.rdr.ok hR.both.eof
    exact Nat.le_trans this hR.src
  · rw [runM_take cs i hi, callsLen_take cs i hi]
    have := callM_taken (runM s0 t0 (cs.take i)).1 (runM s0 t0 (cs.take i)).2.1 cs[i] hR.both.wtr.le hR.both.wtr.lo
    have := hR.tak
    simp only
    omega
end

end Go.Proofs.YtancmlapnhccdaaDoor

/- impl.Run: the walk. -/
namespace Go.Proofs.YtancmlapnhccdaaDoor
open Go.RowKit

theorem callsLen_ge (cs : List CallD) : cs.length ≤ callsLen cs := by
  unfold callsLen
  induction cs with
  | nil => simp
  | cons c cs ih => simp only [List.map_cons, List.sum_cons, List.length_cons]; omega
theorem Tryd.info36 : (Tryd.prog.info? 36).map (fun i => (i.zero, i.size, i.bytes)) = some (some (.agg #[.slice none 0 0, .int .i64 0, .int .i64 0]), 3, 40) := by kernel_rfl

set_option maxHeartbeats 1000000 in
theorem run23 (E : Nat → Addr) (n : Nat) (hn : n ≤ 255) (A : Option Addr) (c : Nat) (ps : List (List UInt8)) (A2 : Option Addr) (c2 : Nat) (cs : List CallD) (w : World) (hE : Env w w.heap.size E) (ht : Lib.Utf8Tabs 9 10 w) (hp : PiecesAt w w.heap.size A ps) (hc : CallsAt w w.heap.size A2 cs)
    (hroom : Room (ps.flatten.length + 255)) (hl : Room ps.length) (hcl : Room (callsLen cs)) :
    Calls Tryd.prog 23 #[.int .u8 (n : Nat), .slice A ps.length c, .slice A2 cs.length c2] w (Ran (runM (newReader (rsize n) ps) ⟨zeros (wsize n), 0, []⟩ cs).2.2 (runM (newReader (rsize n) ps) ⟨zeros (wsize n), 0, []⟩ cs).2.1.got w) := by
  obtain ⟨i0, hi0, hz0, hz1, hz2⟩ := info_parts Tryd.info36
  have HI := Lib.hid (And.intro hi0 (And.intro hz0 (And.intro hz1 hz2))); clear hi0 hz0 hz1 hz2
  have hb0 : Below w.heap.size w (w.alloc (.cells #[.slice none 0 0] 63)) := (Below.refl _ _).alloc (Nat.le_refl _) _
  have hsz : w.heap.size ≤ (w.alloc (.cells #[.slice none 0 0] 63)).heap.size := by simp
  have hm := madeB32 w.heap.size E n hn A c ps w.heap.size _ hsz (hE.below hb0) (hp.below hb0) hl
  have HE := Lib.hid (And.intro hm (And.intro ht (And.intro hc (And.intro hroom hcl)))); clear hE hp hb0 hsz hl hroom hm ht hc hcl
  go_enter Tryd.func23, Tryd.ntmps23
  go_wp2_with fail
  refine HE.out.1.mono ?_
  rintro e w1 ⟨RW, W, WB, L, rfl, hm⟩
  have hB := hm.B
  obtain ⟨hbo, hlo, hbe⟩ := both_made hn hm HE.out.2.1
  have hrow : (w1.alloc (.cells #[] 36)).ownsRow w1.heap.size 36 3 (.slice (some ⟨w1.heap.size, 0, none⟩) 0 0) 0 [] := World.ownsRow_made w1 #[] 0 (Nat.le_refl _) (by simp [maxLen]) (by simp)
  obtain ⟨b, hb⟩ : ∃ b : BL, b = ⟨L, ⟨W, WB, w.heap.size, w.heap.size⟩, RW⟩ := ⟨_, rfl⟩
  rw [← hb] at hbo hlo
  have hbB : b.L.B = w.heap.size := by rw [hb]; exact hB
  have hbRW : RW = b.RW := by rw [hb]
  have hbK : w.heap.size = b.W.K := by rw [hb]
  have hbN : w.heap.size = b.W.N := by rw [hb]
  rw [hbRW]
  clear hm hB hb hbRW
  have hs0 : (newReader (rsize n) ps).src.flatten = ps.flatten := rfl
  have hro := HE.out.2.2.2.1
  rw [← hs0] at hro
  have ht0 : (taken ⟨zeros (wsize n), 0, []⟩).length = 0 := by simp [taken]
  generalize newReader (rsize n) ps = s0 at *
  generalize (⟨zeros (wsize n), 0, []⟩ : WS) = t0 at *
  have H := Lib.hid (And.intro hbo (And.intro hlo (And.intro hbe (And.intro hrow (And.intro hbB (And.intro hbK (And.intro hbN (And.intro hro ht0)))))))); clear hbo hlo hbe hrow hbB hbK hbN hs0 ht0 hro
  go_wp2_with fail
  go_loopg [10, 22] cs.length (fun k t10 t22 wr => ∃ i a c3 v flat, i ≤ cs.length ∧ t22 = .int .i64 ((i : Nat) : Int) ∧ t10 = .slice a i c3 ∧ RunRel E b w1.heap.size s0 t0 cs w i (.slice a i c3) v flat wr ∧ k = cs.length - i)
  case atStart =>
    have hk0 := (Keep.refl (fun _ => False) w1).alloc (.cells #[] 36)
    refine ⟨0, _, _, .slice none 0 0, [], Nat.zero_le _, rfl, rfl, ⟨?_, H.out.2.2.2.1, ?_, ?_, ?_, ?_, ?_⟩, rfl⟩
    · exact H.out.1.still hk0 (fun _ h => h.elim)
    · intro j o hj
      simp [runM] at hj
    · rw [H.out.2.2.2.2.1]
      exact H.out.2.2.1.alloc H.out.2.2.1.size _
    · simp
    · exact Nat.le_refl _
    · show (taken t0).length ≤ callsLen (cs.take 0)
      have := H.out.2.2.2.2.2.2.2.2
      omega
  case round =>
    obtain ⟨i, a, c3, v, flat, hi, ht22, ht10, hR, hk⟩ := hrel
    subst ht22 ht10
    have Hk := Lib.hid hk; clear hk
    by_cases hlt : i < cs.length
    · have hd : decide (i < cs.length) = true := by simpa using hlt
      obtain ⟨hmax, ad, Ab, kb, rfl, hadb, hrb, hcell⟩ := (HE.out.2.2.1.below (hR.below.mono (by rw [H.out.2.2.2.2.1]; exact Nat.le_refl _))).at_ hlt
      have d0 : wr.cell? (ad.add (i * 4)) = some (.int .i64 cs[i].kind) := hcell 0 _ rfl
      have d1 : wr.cell? ⟨(ad.add (i * 4)).block, (ad.add (i * 4)).off + 1, none⟩ = some (.int .i64 cs[i].n) := by
        have := hcell 1 _ rfl
        rw [← add_of_add] at this
        exact this
      have d2 : wr.cell? ⟨(ad.add (i * 4)).block, (ad.add (i * 4)).off + 2, none⟩ = some (.int .u8 (cs[i].delim.toNat : Int)) := by
        have := hcell 2 _ rfl
        rw [← add_of_add] at this
        exact this
      have d3 : wr.cell? ⟨(ad.add (i * 4)).block, (ad.add (i * 4)).off + 3, none⟩ = some (.slice Ab cs[i].bytes.length kb) := by
        have := hcell 3 _ rfl
        rw [← add_of_add] at this
        exact this
      have HR := Lib.hid (And.intro hR (And.intro (show Reads wr b.L.B 1 Ab cs[i].bytes.length (bvs cs[i].bytes) by rw [H.out.2.2.2.2.1]; exact hrb) (And.intro hadb hmax))); clear hR hrb hadb hmax hcell
      go_wp2_with fail
      refine (HR.out.1.call hlt Ab kb HR.out.2.1 HR.out.2.2.2 H.out.2.2.2.2.2.2.2.1 HE.out.2.2.2.2).mono ?_
      rintro e w2 ⟨v', A', c', h2, hv, hk, rfl, hrd, hA⟩
      have ho2 := HR.out.1.owned H.out.2.1 hk h2
      generalize hod : (callM (runM s0 t0 (cs.take i)).1 (runM s0 t0 (cs.take i)).2.1 cs[i]).2.2 = o at *
      have ho3 : (w2.alloc (.cells (outCells A' o.bytes.length c' o.n ((o.err : Nat) : Int)) 36)).ownsRow w1.heap.size 36 3 (.slice a i c3) i flat := own_keep ho2 ((Keep.refl (fun _ => False) w2).alloc _) (fun _ _ h => h)
      have hr3 := out_reads w2 A' o.bytes.length c' o.n ((o.err : Nat) : Int)
      have hsz3 : w1.heap.size ≤ (w2.alloc (.cells (outCells A' o.bytes.length c' o.n ((o.err : Nat) : Int)) 36)).heap.size := by
        have h1 := HR.out.1.size
        have h2 := hk.size
        simp at h2 ⊢
        omega
      have hrm : Room (i + 1) := HE.out.2.2.2.2.mono (by have := callsLen_ge cs; omega)
      have H2 := Lib.hid (And.intro ho3 (And.intro hr3 (And.intro hsz3 (And.intro hrm (And.intro h2 (And.intro hv (And.intro hk (And.intro hrd (And.intro hA hod)))))))))
      clear ho3 hr3 hsz3 hrm h2 hv hk hrd hA hod ho2
      simp only [outCells]
      go_wp2_with (at_builtin; refine wpList_append_any _ rfl (.tmp 26) (.tmp 30) _ rfl w1.heap.size 36 i0 _ 3 40 Tryd.underlying24 HI.out.1 HI.out.2.1 HI.out.2.2.1 HI.out.2.2.2 rfl (by omega) (.slice a i c3) i flat rfl H2.out.1 _ _ 1 1 (outCells A' o.bytes.length c' o.n ((o.err : Nat) : Int)).toList rfl H2.out.2.1 (out_one _ _ _ _ _) H2.out.2.2.2.1.len (H2.out.2.2.2.1.bytes 40 (by omega)) H2.out.2.2.1 ?_; intro v1 w4 hown1 hg1 hat1; obtain ⟨a1, k1, hv1⟩ := own_slice hown1; subst hv1; have H4 := Lib.hid (And.intro hown1 (And.intro hg1 hat1)); clear hown1 hg1 hat1)
      go_roundg (cs.length - (i + 1))
      case measure => have := Hk.out; omega
      case rel =>
        obtain ⟨hown1, hg1, hat1⟩ := H4.out
        obtain ⟨_, _, _, hrm, h2, hv, hk, hrd, hA, hod⟩ := H2.out
        have hB := H.out.2.2.2.2.1
        have hBN : b.L.B ≤ w1.heap.size := by rw [hB]; exact H.out.2.2.1.size
        unfold Room at hrm
        refine ⟨i + 1, a1, k1, v', _, hlt, ?_, rfl, HR.out.1.step H.out.2.1 hBN hlt hod.symm h2 hv hk hrd hA hown1 hg1 hat1, rfl⟩
        refine congrArg (Value.int .i64) ?_
        rw [IntWalk.wrap64_in _ (by omega)]
        rfl
    · have hd : decide (i < cs.length) = false := by simpa using hlt
      have hic : i = cs.length := by omega
      have hall : cs.take i = cs := List.take_of_length_le (by omega)
      have hlen := runM_len cs s0 t0
      have hsn := hR.both.wtr.snk
      rw [← H.out.2.2.2.2.2.1, ← H.out.2.2.2.2.2.2.1] at hsn
      rw [hall] at hsn
      obtain ⟨ag, cg, rfl⟩ := own_slice hsn.2
      have hdc : wr.cell? ⟨w.heap.size, 0, none⟩ = some (.slice ag (runM s0 t0 cs).2.1.got.length cg) := hsn.1.cell 0
      have HR := Lib.hid (And.intro hR (And.intro hsn (And.intro hic (And.intro hall hlen)))); clear hR hsn hic hall hlen
      generalize hgl : (runM s0 t0 cs).2.1.got.length = gl at hdc
      go_wp2_with fail
      go_quiet (fail)
      go_wp2_with fail
      go_ret2
      obtain ⟨hR, hsn, hic, hall, hlen⟩ := HR.out
      have hown := hR.own
      have houts := hR.outs
      rw [hall] at houts
      have hko := (Keep.refl (fun _ => False) wr).drewN nq
      have hB := H.out.2.2.2.2.1
      have hbe := hR.below
      rw [hB] at hbe
      refine ⟨a, c3, .slice ag (runM s0 t0 cs).2.1.got.length cg, flat, ?_, ?_, houts.keep hko (fun _ h => h.elim) (fun _ h => h.elim), own_keep hsn.2 hko (fun _ _ h => h), below_drewN hbe _⟩
      · rw [hlen, ← hic, hgl]
        rfl
      · rw [hlen, ← hic]
        exact own_base (own_keep hown hko (fun _ _ h => h)) H.out.2.2.1.size
end Go.Proofs.YtancmlapnhccdaaDoor
