/- spec.Answers as a machine over lists, and what impl.Run tells of it. No walk here. -/
import Derived.Test.YtancmlapnhccdaaDoorPlr
namespace Go.Proofs.YtancmlapnhccdaaDoor
open Go.RowKit

/-- what spec.Answers carries -/
structure AS where
  r : SR
  outs : List OutD
  all : List UInt8
  flushed : Nat
  told : Bool
/-- what a call of the writer answers -/
def wrOut (c : CallD) : OutD :=
  if c.kind = 8 ∨ c.kind = 11 then ⟨[], (c.bytes.length : Nat), 0⟩ else if c.kind = 10 then ⟨[], ((encM (IntKind.i32.wrap c.n)).length : Nat), 0⟩ else noOut
def AS.step (a : AS) (c : CallD) : AS :=
  if isRd c then { a with r := (a.r.call c).1, outs := a.outs ++ [(a.r.call c).2.1], told := a.told && (a.r.call c).2.2 }
  else if isWr c then { a with outs := a.outs ++ [wrOut c], all := a.all ++ wrote c, flushed := if c.kind = 12 then (a.all ++ wrote c).length else a.flushed }
  else { a with outs := a.outs ++ [noOut] }
def AS.run (a : AS) (cs : List CallD) : AS := cs.foldl AS.step a
def as0 (data : List UInt8) : AS := ⟨sr0 data, [], [], 0, true⟩
theorem AS.run_take (a : AS) (cs : List CallD) (i : Nat) (h : i < cs.length) : a.run (cs.take (i + 1)) = (a.run (cs.take i)).step cs[i] := by
  unfold AS.run
  rw [List.take_add_one, List.getElem?_eq_getElem h, Option.toList_some, List.foldl_append]
  rfl
theorem AS.run_cons (a : AS) (c : CallD) (cs : List CallD) : a.run (c :: cs) = (a.step c).run cs := rfl

theorem wrCall_out (t : WS) (c : CallD) (h : isWr c) : (wrCall t c).2 = wrOut c := by
  obtain ⟨h1, h2⟩ := h
  unfold wrCall wrOut
  by_cases k8 : c.kind = 8
  · rw [if_pos k8, if_pos (.inl k8)]
  rw [if_neg k8]
  by_cases k9 : c.kind = 9
  · rw [if_pos k9, if_neg (by omega), if_neg (by omega)]; rfl
  rw [if_neg k9]
  by_cases k10 : c.kind = 10
  · rw [if_pos k10, if_neg (by omega), if_pos k10]
  rw [if_neg k10]
  by_cases k11 : c.kind = 11
  · rw [if_pos k11, if_pos (.inr k11)]
  · rw [if_neg k11, if_neg (by omega), if_neg k10]; rfl

theorem told_run : ∀ (cs : List CallD) (a : AS) (s : RS) (t : WS), (a.told = true → Agree a.r s) → (a.run cs).told = true → a.told = true ∧ (a.run cs).outs = a.outs ++ (runM s t cs).2.2
  | [], a, s, t, _, h => ⟨h, by simp [AS.run, runM]⟩
  | c :: cs, a, s, t, hA, h => by
    rw [AS.run_cons] at h ⊢
    by_cases hr : isRd c
    · have hx : callM s t c = ((rdCall s c).1, t, (rdCall s c).2) := by unfold callM; rw [if_pos hr]
      have hst : a.step c = { a with r := (a.r.call c).1, outs := a.outs ++ [(a.r.call c).2.1], told := a.told && (a.r.call c).2.2 } := by unfold AS.step; rw [if_pos hr]
      obtain ⟨h1, h2⟩ := told_run cs (a.step c) (rdCall s c).1 t (fun ht => by
        rw [hst] at ht ⊢
        simp only [Bool.and_eq_true] at ht
        exact (agree (hA ht.1) c ht.2).2) h
      rw [hst] at h1
      simp only [Bool.and_eq_true] at h1
      refine ⟨h1.1, ?_⟩
      rw [h2, hst]
      simp only [runM, hx, (agree (hA h1.1) c h1.2).1, List.append_assoc, List.singleton_append]
    · by_cases hw : isWr c
      · have hx : callM s t c = (s, (wrCall t c).1, (wrCall t c).2) := by unfold callM; rw [if_neg hr, if_pos hw]
        have hst : a.step c = { a with outs := a.outs ++ [wrOut c], all := a.all ++ wrote c, flushed := if c.kind = 12 then (a.all ++ wrote c).length else a.flushed } := by unfold AS.step; rw [if_neg hr, if_pos hw]
        obtain ⟨h1, h2⟩ := told_run cs (a.step c) s (wrCall t c).1 (fun ht => by rw [hst] at ht ⊢; exact hA ht) h
        rw [hst] at h1
        refine ⟨h1, ?_⟩
        rw [h2, hst]
        simp only [runM, hx, wrCall_out t c hw, List.append_assoc, List.singleton_append]
      · have hx : callM s t c = (s, t, noOut) := by unfold callM; rw [if_neg hr, if_neg hw]
        have hst : a.step c = { a with outs := a.outs ++ [noOut] } := by unfold AS.step; rw [if_neg hr, if_neg hw]
        obtain ⟨h1, h2⟩ := told_run cs (a.step c) s t (fun ht => by rw [hst] at ht ⊢; exact hA ht) h
        rw [hst] at h1
        refine ⟨h1, ?_⟩
        rw [h2, hst]
        simp only [runM, hx, List.append_assoc, List.singleton_append]
theorem told_new (n : Nat) (hn : n ≤ 255) (ps : List (List UInt8)) (t : WS) (cs : List CallD) (h : ((as0 ps.flatten).run cs).told = true) : (runM (newReader (rsize n) ps) t cs).2.2 = ((as0 ps.flatten).run cs).outs := by
  have := (told_run cs (as0 ps.flatten) (newReader (rsize n) ps) t (fun _ => agree_new n hn ps) h).2
  rw [this]; rfl
theorem AS.run_len (a : AS) (cs : List CallD) : (a.run cs).outs.length = a.outs.length + cs.length := by
  induction cs generalizing a with
  | nil => simp [AS.run]
  | cons c cs ih =>
    rw [AS.run_cons, ih]
    have : (a.step c).outs.length = a.outs.length + 1 := by
      unfold AS.step
      split
      · simp
      · split <;> simp
    rw [this, List.length_cons]
    omega

/-! ### the sink only grows -/
def Gr (s t : WS) : Prop := s.got.length ≤ t.got.length
theorem flushM_gr (s : WS) : Gr s (flushM s) := by show _ ≤ (s.got ++ _).length; simp
theorem putM_gr (s : WS) (p : List UInt8) : Gr s (putM s p) := Nat.le_refl _
theorem spillM_gr (s : WS) (p : List UInt8) : Gr s (spillM s p) := flushM_gr (putM s _)
theorem directM_gr (s : WS) (p : List UInt8) : Gr s (directM s p) := by show _ ≤ (s.got ++ p).length; simp
theorem writeM_gr (s : WS) (p : List UInt8) : Gr s (writeM s p) := by
  have base : ∀ (u : WS) (q : List UInt8), u.n = 0 → Gr u (writeM u q) := by
    intro u q h0
    by_cases hf : q.length ≤ u.buf.length - u.n
    · rw [writeM_fit u q hf]; exact putM_gr u q
    · rw [writeM_direct u q hf h0, writeM_fit _ _ (by simp)]
      exact Nat.le_trans (directM_gr u q) (putM_gr _ _)
  by_cases hf : p.length ≤ s.buf.length - s.n
  · rw [writeM_fit s p hf]; exact putM_gr s p
  · by_cases h0 : s.n = 0
    · exact base s p h0
    · rw [writeM_spill s p hf h0]
      exact Nat.le_trans (spillM_gr s p) (base _ _ rfl)
theorem strM_gr : ∀ (k : Nat) (s : WS) (p : List UInt8), srank s p = k → s.n ≤ s.buf.length → 1 ≤ s.buf.length → Gr s (strM s p) := by
  intro k
  induction k using Nat.strongRecOn with
  | ind k ih =>
    intro s p hk h h1
    by_cases hf : p.length ≤ s.buf.length - s.n
    · rw [strM_fit s p hf]; exact putM_gr s p
    · have hr := srank_spill s p h h1 hf
      have hl := spillM_len s p h
      rw [strM_spill s p h h1 hf]
      exact Nat.le_trans (spillM_gr s p) (ih _ (by omega) (spillM s p) (p.drop (s.buf.length - s.n)) rfl (by show 0 ≤ _; omega) (by rw [hl]; exact h1))
theorem writeByteM_gr (s : WS) (b : UInt8) : Gr s (writeByteM s b) := by
  unfold writeByteM freeM
  split
  · exact flushM_gr s
  · exact Nat.le_refl _
theorem writeRuneM_gr (s : WS) (r : Int) (h1 : 1 ≤ s.buf.length) : Gr s (writeRuneM s r) := by
  unfold writeRuneM
  split
  · exact writeByteM_gr s _
  · split
    · exact putM_gr s _
    · split
      · exact flushM_gr s
      · exact Nat.le_trans (flushM_gr s) (strM_gr _ _ _ rfl (Nat.zero_le _) h1)
theorem wrCall_gr (s : WS) (c : CallD) (h : s.n ≤ s.buf.length) (h1 : 1 ≤ s.buf.length) : Gr s (wrCall s c).1 := by
  unfold wrCall
  split
  · exact writeM_gr s _
  split
  · exact writeByteM_gr s _
  split
  · exact writeRuneM_gr s _ h1
  split
  · exact strM_gr _ s _ rfl h h1
  · exact flushM_gr s

theorem sink_run : ∀ (cs : List CallD) (a : AS) (s : RS) (t : WS), t.n ≤ t.buf.length → 1 ≤ t.buf.length → taken t = a.all → a.flushed ≤ t.got.length → taken (runM s t cs).2.1 = (a.run cs).all ∧ (a.run cs).flushed ≤ (runM s t cs).2.1.got.length
  | [], a, s, t, _, _, h3, h4 => ⟨h3, h4⟩
  | c :: cs, a, s, t, h1, h2, h3, h4 => by
    rw [AS.run_cons]
    simp only [runM]
    by_cases hr : isRd c
    · have hx : callM s t c = ((rdCall s c).1, t, (rdCall s c).2) := by unfold callM; rw [if_pos hr]
      rw [hx]
      refine sink_run cs (a.step c) _ t h1 h2 ?_ ?_ <;> unfold AS.step <;> rw [if_pos hr]
      · exact h3
      · exact h4
    · by_cases hw : isWr c
      · have hx : callM s t c = (s, (wrCall t c).1, (wrCall t c).2) := by unfold callM; rw [if_neg hr, if_pos hw]
        obtain ⟨k1, k2⟩ := wrCall_taken t c h1 h2
        have k3 := wrCall_gr t c h1 h2
        rw [hx]
        refine sink_run cs (a.step c) s _ k2.le (by rw [k2.len]; exact h2) ?_ ?_
        · unfold AS.step; rw [if_neg hr, if_pos hw]; simp only; rw [k1, h3]
        · unfold AS.step; rw [if_neg hr, if_pos hw]; simp only
          split
          · rename_i h12
            have hf : (wrCall t c).1 = flushM t := by
              unfold wrCall
              rw [if_neg (by omega), if_neg (by omega), if_neg (by omega), if_neg (by omega)]
            have hwr : wrote c = [] := by unfold wrote; rw [if_neg (by omega), if_neg (by omega), if_neg (by omega)]
            rw [hf, hwr, List.append_nil, ← h3]
            exact Nat.le_refl _
          · exact Nat.le_trans h4 k3
      · have hx : callM s t c = (s, t, noOut) := by unfold callM; rw [if_neg hr, if_neg hw]
        rw [hx]
        refine sink_run cs (a.step c) s t h1 h2 ?_ ?_ <;> unfold AS.step <;> rw [if_neg hr, if_neg hw]
        · exact h3
        · exact h4
theorem wsize_pos (n : Nat) : 1 ≤ wsize n := by unfold wsize; split <;> omega
/-- the sink holds a beginning of all that is written, with all that has been flushed -/
theorem sink_new (n : Nat) (s : RS) (data : List UInt8) (cs : List CallD) : ∃ more, ((as0 data).run cs).all = (runM s ⟨zeros (wsize n), 0, []⟩ cs).2.1.got ++ more ∧ ((as0 data).run cs).flushed ≤ (runM s ⟨zeros (wsize n), 0, []⟩ cs).2.1.got.length := by
  obtain ⟨h1, h2⟩ := sink_run cs (as0 data) s ⟨zeros (wsize n), 0, []⟩ (Nat.zero_le _) (by show 1 ≤ (zeros (wsize n)).length; rw [zeros_length]; exact wsize_pos n) (by simp [taken, as0]) (Nat.zero_le _)
  exact ⟨_, h1.symm, h2⟩
theorem all_len (data : List UInt8) (cs : List CallD) : ((as0 data).run cs).all.length ≤ callsLen cs := by
  have : ∀ (cs : List CallD) (a : AS), (a.run cs).all.length ≤ a.all.length + callsLen cs := by
    intro cs
    induction cs with
    | nil => intro a; simp [AS.run, callsLen]
    | cons c cs ih =>
      intro a
      rw [AS.run_cons]
      have h1 := ih (a.step c)
      have h2 : (a.step c).all.length ≤ a.all.length + (c.bytes.length + 4) := by
        have := wrote_len c
        unfold AS.step
        split
        · simp only; omega
        · split
          · simp only [List.length_append]; omega
          · simp only; omega
      have h3 : callsLen (c :: cs) = (c.bytes.length + 4) + callsLen cs := by simp [callsLen]
      omega
  have h := this cs (as0 data)
  simp only [as0, List.length_nil] at h
  simpa [as0] using h
end Go.Proofs.YtancmlapnhccdaaDoor
