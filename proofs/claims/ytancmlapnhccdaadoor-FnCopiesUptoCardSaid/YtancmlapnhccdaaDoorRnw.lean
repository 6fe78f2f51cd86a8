/- Joined by merge.py out of: Rnm, Wpl. -/
import Derived.Test.YtancmlapnhccdaaDoorCak
import Derived.Test.YtancmlapnhccdaaDoorCam

/- impl.call and impl.Run as a machine; impl.call, whatever the call. -/
namespace Go.Proofs.YtancmlapnhccdaaDoor
open Go.RowKit

/-- the library's writer, by the same calls -/
def wrCall (t : WS) (c : CallD) : WS × OutD :=
  if c.kind = 8 then (writeM t c.bytes, ⟨[], (c.bytes.length : Nat), 0⟩)
  else if c.kind = 9 then (writeByteM t c.delim, ⟨[], 0, 0⟩)
  else if c.kind = 10 then (writeRuneM t (IntKind.i32.wrap c.n), ⟨[], ((encM (IntKind.i32.wrap c.n)).length : Nat), 0⟩)
  else if c.kind = 11 then (strM t c.bytes, ⟨[], (c.bytes.length : Nat), 0⟩)
  else (flushM t, ⟨[], 0, 0⟩)
def isRd (c : CallD) : Prop := 0 ≤ c.kind ∧ c.kind ≤ 7
def isWr (c : CallD) : Prop := 8 ≤ c.kind ∧ c.kind ≤ 12
instance (c : CallD) : Decidable (isRd c) := by unfold isRd; infer_instance
instance (c : CallD) : Decidable (isWr c) := by unfold isWr; infer_instance
def callM (s : RS) (t : WS) (c : CallD) : RS × WS × OutD :=
  if isRd c then ((rdCall s c).1, t, (rdCall s c).2) else if isWr c then (s, (wrCall t c).1, (wrCall t c).2) else (s, t, noOut)
def runM : RS → WS → List CallD → RS × WS × List OutD
  | s, t, [] => (s, t, [])
  | s, t, c :: cs => ((runM (callM s t c).1 (callM s t c).2.1 cs).1, (runM (callM s t c).1 (callM s t c).2.1 cs).2.1, (callM s t c).2.2 :: (runM (callM s t c).1 (callM s t c).2.1 cs).2.2)

theorem call33 (E : Nat → Addr) (b : BL) (s : RS) (t : WS) (v : Value) (c : CallD) (A : Option Addr) (k : Nat) (w : World) (h : Both w E b s t v) (hrd : Reads w b.L.B 1 A c.bytes.length (bvs c.bytes)) (hmax : c.n ≤ 9223372036854775807) (hl : Room (left s).length) (hroom : Room (t.got.length + t.n + c.bytes.length + 4)) :
    Calls Tryd.prog 33 #[.pointer (some ⟨b.RW, 0, none⟩), callV c A k] w (CallGave E b (callM s t c).1 (callM s t c).2.1 v (callM s t c).2.2 w) := by
  obtain ⟨kind, n, dl, bs⟩ := c
  simp only at hrd hmax hroom
  by_cases hr : isRd ⟨kind, n, dl, bs⟩
  · have hx : callM s t ⟨kind, n, dl, bs⟩ = ((rdCall s ⟨kind, n, dl, bs⟩).1, t, (rdCall s ⟨kind, n, dl, bs⟩).2) := by simp only [callM, if_pos hr]
    rw [hx]
    obtain ⟨h1, h2⟩ := hr
    simp only at h1 h2
    have hk : kind = 0 ∨ kind = 1 ∨ kind = 2 ∨ kind = 3 ∨ kind = 4 ∨ kind = 5 ∨ kind = 6 ∨ kind = 7 := by omega
    rcases hk with rfl | rfl | rfl | rfl | rfl | rfl | rfl | rfl
    · exact call_readByte E b s t v n dl bs A k w h
    · exact call_readRune E b s t v n dl bs A k w h
    · exact call_unreadByte E b s t v n dl bs A k w h
    · exact call_unreadRune E b s t v n dl bs A k w h
    · exact call_peek E b s t v n dl bs A k w h
    · exact call_discard E b s t v n dl bs A k w h hmax
    · exact call_readBytes E b s t v n dl bs A k w h hl
    · exact call_readString E b s t v n dl bs A k w h hl
  · by_cases hw : isWr ⟨kind, n, dl, bs⟩
    · have hx : callM s t ⟨kind, n, dl, bs⟩ = (s, (wrCall t ⟨kind, n, dl, bs⟩).1, (wrCall t ⟨kind, n, dl, bs⟩).2) := by simp only [callM, if_neg hr, if_pos hw]
      rw [hx]
      obtain ⟨h1, h2⟩ := hw
      simp only at h1 h2
      have hk : kind = 8 ∨ kind = 9 ∨ kind = 10 ∨ kind = 11 ∨ kind = 12 := by omega
      rcases hk with rfl | rfl | rfl | rfl | rfl
      · exact call_write E b s t v n dl bs A k w h hrd (hroom.mono (by omega))
      · exact call_writeByte E b s t v n dl bs A k w h (hroom.mono (by omega))
      · exact call_writeRune E b s t v n dl bs A k w h (hroom.mono (by omega))
      · exact call_writeString E b s t v n dl bs A k w h hrd (hroom.mono (by omega))
      · exact call_flush E b s t v n dl bs A k w h (hroom.mono (by omega))
    · have hx : callM s t ⟨kind, n, dl, bs⟩ = (s, t, noOut) := by simp only [callM, if_neg hr, if_neg hw]
      rw [hx]
      refine call_other E b s t v kind n ?_ dl bs A k w h
      unfold isRd at hr
      unfold isWr at hw
      simp only at hr hw
      omega

end Go.Proofs.YtancmlapnhccdaaDoor

/- What the two machines keep: the source only shrinks; all that is written is taken in order. No walk here. -/
namespace Go.Proofs.YtancmlapnhccdaaDoor
open Go.RowKit

/-! ### the reader -/
def Shr (s t : RS) : Prop := t.src.flatten.length ≤ s.src.flatten.length
theorem FillsTo.shr {s t : RS} (h : FillsTo s t) : Shr s t := by
  have hl := congrArg List.length h.left
  rw [left_split, left_split, List.length_append, List.length_append] at hl
  have := h.more
  unfold Shr
  omega
theorem shr_disc : ∀ (k n : Nat) (s : RS), s.Ok → Shr s (discF k n s).1 := by
  intro k
  induction k with
  | zero => intro n s _; exact Nat.le_refl _
  | succ k ih =>
    intro n s hok
    obtain ⟨t, ht⟩ : ∃ t, t = (if s.w - s.r = 0 then fillM s else s) := ⟨_, rfl⟩
    have hts : t.Ok ∧ Shr s t := by
      by_cases h0 : s.w - s.r = 0
      · rw [if_pos h0] at ht
        have hf := FillsTo.fill hok (by have := hok.lo; omega)
        rw [ht]; exact ⟨hf.ok, hf.shr⟩
      · rw [if_neg h0] at ht
        rw [ht]; exact ⟨hok, Nat.le_refl _⟩
    rw [discF_step k n s t ht _ rfl]
    split
    · exact hts.2
    · split
      · exact hts.2
      · refine Nat.le_trans (ih _ _ ?_) hts.2
        have := hts.1.rw
        exact hts.1.put (by omega) hts.1.wn hts.1.lb0 hts.1.lb1 hts.1.lr0 hts.1.lr1
theorem lastM_src (l : List UInt8) (s : RS) : (lastM l s).src = s.src := (lastM_fields l s).2.2.2.1
theorem shr_slice (d : UInt8) (s : RS) (h : s.Ok) : Shr s (sliceM d s).1 := by
  obtain ⟨hf, _⟩ := fillW_fills (cSlice_asks d) s h
  have := hf.shr
  unfold sliceM sliceE
  repeat' split
  all_goals (simp only [Shr, lastM_src]; exact this)
theorem shr_coll (d : UInt8) : ∀ (k : Nat) (s : RS) (full : List (List UInt8)), s.Ok → EofOk s → Shr s (collF d k s full).1 := by
  intro k
  induction k with
  | zero => intro s full _ _; exact Nat.le_refl _
  | succ k ih =>
    intro s full hok he
    have hs := shr_slice d s hok
    have hd := slice_done d s hok he
    have hst : collF d (k + 1) s full = if (sliceM d s).2.2 = 5 then collF d k (sliceM d s).1 (full ++ [(sliceM d s).2.1]) else ((sliceM d s).1, full, (sliceM d s).2.1, (sliceM d s).2.2) := rfl
    rw [hst]
    split
    · exact Nat.le_trans (ih _ _ hd.ok hd.eof) hs
    · exact hs
theorem shr_rdCall (s : RS) (h : s.Ok) (he : EofOk s) (c : CallD) : Shr s (rdCall s c).1 := by
  unfold rdCall
  split
  · have hok1 : ({ s with lr := -1 } : RS).Ok := ⟨h.rw, h.wn, h.lo, h.hi, h.lb0, h.lb1, by simp, by simp⟩
    have := (fillW_fills cByte_asks { s with lr := -1 } hok1).1.shr
    simp only [readByteM, readByteE]
    split <;> exact this
  split
  · have := (fillW_fills cRune_asks s h).1.shr
    simp only [readRuneM, readRuneE]
    split <;> exact this
  split
  · simp only [unreadByteM]
    split
    · exact Nat.le_refl _
    · split <;> exact Nat.le_refl _
  split
  · simp only [unreadRuneM]
    split <;> exact Nat.le_refl _
  split
  · simp only [peekM]
    split
    · exact Nat.le_refl _
    · have := (fillW_fills (cPeek_asks c.n.toNat) (noBack s) (noBack_ok h)).1.shr
      simp only [peekE]
      split
      · exact this
      · split <;> exact this
  split
  · simp only [discardM]
    split
    · exact Nat.le_refl _
    · split
      · exact Nat.le_refl _
      · exact shr_disc _ _ (noBack s) (noBack_ok h)
  · exact shr_coll c.delim (dmeas s) s [] h he
theorem left_le {s : RS} (h : s.Ok) : (left s).length ≤ 255 + s.src.flatten.length := by
  have h1 := avail_length s h
  have h2 := h.wn
  have h3 := h.hi
  rw [left_split, List.length_append]
  omega

/-! ### the writer -/
/-- the writer's buffer has its size, and is not overfull -/
structure Wok (s s' : WS) : Prop where
  len : s'.buf.length = s.buf.length
  le : s'.n ≤ s'.buf.length
theorem Wok.trans {s t u : WS} (h : Wok s t) (k : Wok t u) : Wok s u := ⟨k.len.trans h.len, k.le⟩
theorem putM_wok (s : WS) (p : List UInt8) (h : s.n ≤ s.buf.length) (hp : p.length ≤ s.buf.length - s.n) : Wok s (putM s p) := by
  have hl := putM_len s p h hp
  exact ⟨hl, by rw [hl]; show s.n + p.length ≤ _; omega⟩
theorem flushM_wok (s : WS) : Wok s (flushM s) := ⟨rfl, Nat.zero_le _⟩
theorem spillM_wok (s : WS) (p : List UInt8) (h : s.n ≤ s.buf.length) : Wok s (spillM s p) := ⟨spillM_len s p h, Nat.zero_le _⟩
theorem writeM_taken (s : WS) (p : List UInt8) (h : s.n ≤ s.buf.length) : taken (writeM s p) = taken s ++ p ∧ Wok s (writeM s p) := by
  have base : ∀ (u : WS) (q : List UInt8), u.n = 0 → taken (writeM u q) = taken u ++ q ∧ Wok u (writeM u q) := by
    intro u q h0
    by_cases hf : q.length ≤ u.buf.length - u.n
    · rw [writeM_fit u q hf]
      exact ⟨putM_taken u q (by omega) hf, putM_wok u q (by omega) hf⟩
    · rw [writeM_direct u q hf h0, writeM_fit _ _ (by simp)]
      have hz : (directM u q).n ≤ (directM u q).buf.length := by show u.n ≤ u.buf.length; omega
      refine ⟨?_, ?_⟩
      · rw [putM_taken _ _ hz (by simp), directM_taken u q h0, List.append_nil]
      · have := putM_wok (directM u q) [] hz (by simp)
        exact ⟨this.len, this.le⟩
  by_cases hf : p.length ≤ s.buf.length - s.n
  · rw [writeM_fit s p hf]
    exact ⟨putM_taken s p h hf, putM_wok s p h hf⟩
  · by_cases h0 : s.n = 0
    · exact base s p h0
    · rw [writeM_spill s p hf h0]
      obtain ⟨b1, b2⟩ := base (spillM s p) (p.drop (s.buf.length - s.n)) rfl
      refine ⟨?_, (spillM_wok s p h).trans b2⟩
      rw [b1, spillM_taken s p h, List.append_assoc, List.take_append_drop]
theorem strM_taken : ∀ (k : Nat) (s : WS) (p : List UInt8), srank s p = k → s.n ≤ s.buf.length → 1 ≤ s.buf.length → taken (strM s p) = taken s ++ p ∧ Wok s (strM s p) := by
  intro k
  induction k using Nat.strongRecOn with
  | ind k ih =>
    intro s p hk h h1
    by_cases hf : p.length ≤ s.buf.length - s.n
    · rw [strM_fit s p hf]
      exact ⟨putM_taken s p h hf, putM_wok s p h hf⟩
    · have hr := srank_spill s p h h1 hf
      have hl := spillM_len s p h
      rw [strM_spill s p h h1 hf]
      obtain ⟨b1, b2⟩ := ih _ (by omega) (spillM s p) (p.drop (s.buf.length - s.n)) rfl (by show 0 ≤ _; omega) (by rw [hl]; exact h1)
      refine ⟨?_, (spillM_wok s p h).trans b2⟩
      rw [b1, spillM_taken s p h, List.append_assoc, List.take_append_drop]
theorem freeM_taken (s : WS) (h : s.n ≤ s.buf.length) (h1 : 1 ≤ s.buf.length) : taken (freeM s) = taken s ∧ Wok s (freeM s) ∧ 1 ≤ (freeM s).buf.length - (freeM s).n := by
  unfold freeM
  split
  · exact ⟨flushM_taken s, flushM_wok s, by show 1 ≤ s.buf.length - 0; omega⟩
  · exact ⟨rfl, ⟨rfl, h⟩, by omega⟩
theorem writeByteM_taken (s : WS) (b : UInt8) (h : s.n ≤ s.buf.length) (h1 : 1 ≤ s.buf.length) : taken (writeByteM s b) = taken s ++ [b] ∧ Wok s (writeByteM s b) := by
  obtain ⟨a1, a2, a3⟩ := freeM_taken s h h1
  unfold writeByteM
  refine ⟨?_, a2.trans (putM_wok _ _ a2.le (by simpa using a3))⟩
  rw [putM_taken _ _ a2.le (by simpa using a3), a1]
theorem writeRuneM_taken (s : WS) (r : Int) (h : s.n ≤ s.buf.length) (h1 : 1 ≤ s.buf.length) : taken (writeRuneM s r) = taken s ++ encM r ∧ Wok s (writeRuneM s r) := by
  have hel := encM_len r
  unfold writeRuneM
  split
  · rename_i ha
    have e : encM r = [UInt8.ofNat r.toNat] := by
      unfold encM Lib.encodeRune
      rw [Lib.encodeRuneZ_one ha.1 (by omega)]
      rfl
    rw [e]
    exact writeByteM_taken s _ h h1
  · split
    · exact ⟨putM_taken s _ h (by omega), putM_wok s _ h (by omega)⟩
    · split
      · rename_i h4
        have hz : (encM r).length ≤ (flushM s).buf.length - (flushM s).n := by show _ ≤ s.buf.length - 0; omega
        refine ⟨?_, (flushM_wok s).trans (putM_wok _ _ (Nat.zero_le _) hz)⟩
        rw [putM_taken _ _ (Nat.zero_le _) hz, flushM_taken]
      · obtain ⟨b1, b2⟩ := strM_taken _ (flushM s) (encM r) rfl (Nat.zero_le _) h1
        exact ⟨by rw [b1, flushM_taken], (flushM_wok s).trans b2⟩
/-- what a call of the writer writes -/
def wrote (c : CallD) : List UInt8 :=
  if c.kind = 8 ∨ c.kind = 11 then c.bytes else if c.kind = 9 then [c.delim] else if c.kind = 10 then encM (IntKind.i32.wrap c.n) else []
theorem wrCall_taken (s : WS) (c : CallD) (h : s.n ≤ s.buf.length) (h1 : 1 ≤ s.buf.length) : taken (wrCall s c).1 = taken s ++ wrote c ∧ Wok s (wrCall s c).1 := by
  unfold wrCall wrote
  by_cases k8 : c.kind = 8
  · rw [if_pos k8, if_pos (.inl k8)]; exact writeM_taken s _ h
  rw [if_neg k8]
  by_cases k9 : c.kind = 9
  · rw [if_pos k9, if_neg (by omega), if_pos k9]; exact writeByteM_taken s _ h h1
  rw [if_neg k9]
  by_cases k10 : c.kind = 10
  · rw [if_pos k10, if_neg (by omega), if_neg k9, if_pos k10]; exact writeRuneM_taken s _ h h1
  rw [if_neg k10]
  by_cases k11 : c.kind = 11
  · rw [if_pos k11, if_pos (.inr k11)]; exact strM_taken _ s _ rfl h h1
  · rw [if_neg k11, if_neg (by omega), if_neg k9, if_neg k10, List.append_nil]
    exact ⟨flushM_taken s, flushM_wok s⟩
theorem wrote_len (c : CallD) : (wrote c).length ≤ c.bytes.length + 4 := by
  have := encM_len (IntKind.i32.wrap c.n)
  unfold wrote
  repeat' split
  all_goals simp
  all_goals omega
end Go.Proofs.YtancmlapnhccdaaDoor
