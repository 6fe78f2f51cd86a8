/- The plain parts of FnApart, FnFlushed, FnLines, FnRunes, FnRunesWritten. No walk here. -/
import Derived.Test.YtancmlapnhccdaaDoorAns
namespace Go.Proofs.YtancmlapnhccdaaDoor
open Go.RowKit

/-! ### FnFlushed -/
theorem wrote_not {c : CallD} (h : ¬ isWr c) : wrote c = [] := by
  unfold isWr at h
  unfold wrote
  rw [if_neg (by omega), if_neg (by omega), if_neg (by omega)]
theorem taken_run : ∀ (cs : List CallD) (s : RS) (t : WS), t.n ≤ t.buf.length → 1 ≤ t.buf.length → taken (runM s t cs).2.1 = taken t ++ (cs.map wrote).flatten
  | [], s, t, _, _ => by simp [runM]
  | c :: cs, s, t, h1, h2 => by
    simp only [runM, List.map_cons, List.flatten_cons]
    by_cases hr : isRd c
    · have hx : callM s t c = ((rdCall s c).1, t, (rdCall s c).2) := by unfold callM; rw [if_pos hr]
      rw [hx]
      simp only
      rw [taken_run cs _ t h1 h2, wrote_not (by unfold isRd at hr; unfold isWr; omega), List.nil_append]
    · by_cases hw : isWr c
      · have hx : callM s t c = (s, (wrCall t c).1, (wrCall t c).2) := by unfold callM; rw [if_neg hr, if_pos hw]
        obtain ⟨k1, k2⟩ := wrCall_taken t c h1 h2
        rw [hx]
        simp only
        rw [taken_run cs s _ k2.le (by rw [k2.len]; exact h2), k1, List.append_assoc]
      · have hx : callM s t c = (s, t, noOut) := by unfold callM; rw [if_neg hr, if_neg hw]
        rw [hx]
        simp only
        rw [taken_run cs s t h1 h2, wrote_not hw, List.nil_append]
def flushC : CallD := ⟨12, 0, 0, []⟩
theorem flushed_got (n : Nat) (s : RS) (cs : List CallD) : (runM s ⟨zeros (wsize n), 0, []⟩ (cs ++ [flushC])).2.1.got = (cs.map wrote).flatten := by
  have h := taken_run cs s ⟨zeros (wsize n), 0, []⟩ (Nat.zero_le _) (by show 1 ≤ (zeros (wsize n)).length; rw [zeros_length]; exact wsize_pos n)
  rw [runM_append]
  have hx : ∀ s t, callM s t flushC = (s, flushM t, ⟨[], 0, 0⟩) := by
    intro s t
    unfold callM
    rw [if_neg (by simp [flushC, isRd]), if_pos (by simp [flushC, isWr])]
    simp [wrCall, flushC]
  simp only [runM, hx]
  show taken (runM s ⟨zeros (wsize n), 0, []⟩ cs).2.1 = _
  rw [h]
  simp [taken]

/-! ### FnApart -/
def pick (p : CallD → Bool) (cs : List CallD) (os : List OutD) : List OutD := ((cs.zip os).filter fun x => p x.1).map (·.2)
theorem pick_cons (p : CallD → Bool) (c : CallD) (cs : List CallD) (o : OutD) (os : List OutD) : pick p (c :: cs) (o :: os) = (if p c then [o] else []) ++ pick p cs os := by
  unfold pick
  rw [List.zip_cons_cons, List.filter_cons]
  by_cases h : p c = true
  · rw [if_pos h, if_pos h]; rfl
  · rw [if_neg h, if_neg h]; rfl
theorem pick_append (p : CallD → Bool) : ∀ (cs : List CallD) (os : List OutD) (c : CallD) (o : OutD), cs.length = os.length → pick p (cs ++ [c]) (os ++ [o]) = pick p cs os ++ (if p c then [o] else [])
  | [], [], c, o, _ => by simpa [pick] using pick_cons p c [] o []
  | [], _ :: _, _, _, h => by simp at h
  | _ :: _, [], _, _, h => by simp at h
  | c' :: cs, o' :: os, c, o, h => by
    simp only [List.cons_append, pick_cons]
    rw [pick_append p cs os c o (by simpa using h), List.append_assoc]
theorem pick_take (p : CallD → Bool) (cs : List CallD) (os : List OutD) (i : Nat) (h1 : i < cs.length) (h2 : i < os.length) : pick p (cs.take (i + 1)) (os.take (i + 1)) = pick p (cs.take i) (os.take i) ++ (if p cs[i] then [os[i]] else []) := by
  rw [List.take_add_one, List.take_add_one, List.getElem?_eq_getElem h1, List.getElem?_eq_getElem h2]
  exact pick_append p _ _ _ _ (by simp; omega)
def rdB (c : CallD) : Bool := decide (isRd c)
def wrB (c : CallD) : Bool := decide (isWr c)
theorem apart_rd : ∀ (cs : List CallD) (s : RS) (t t' : WS), (runM s t' (cs.filter rdB)).2.1 = t' ∧ (runM s t' (cs.filter rdB)).2.2 = pick rdB cs (runM s t cs).2.2
  | [], s, t, t' => ⟨rfl, rfl⟩
  | c :: cs, s, t, t' => by
    simp only [runM, pick_cons]
    by_cases hr : isRd c
    · have hx : ∀ t, callM s t c = ((rdCall s c).1, t, (rdCall s c).2) := by intro t; unfold callM; rw [if_pos hr]
      have hb : rdB c = true := by simpa [rdB] using hr
      rw [List.filter_cons, if_pos hb, if_pos hb]
      simp only [runM, hx]
      obtain ⟨h1, h2⟩ := apart_rd cs (rdCall s c).1 t t'
      exact ⟨h1, by rw [h2]; rfl⟩
    · have hb : ¬ rdB c = true := by simpa [rdB] using hr
      rw [List.filter_cons, if_neg hb, if_neg hb]
      have hs : (callM s t c).1 = s := by
        unfold callM; rw [if_neg hr]; split <;> rfl
      obtain ⟨h1, h2⟩ := apart_rd cs s (callM s t c).2.1 t'
      rw [hs]
      exact ⟨h1, by rw [h2]; rfl⟩
theorem apart_wr : ∀ (cs : List CallD) (s s' : RS) (t : WS), (runM s' t (cs.filter wrB)).2.1 = (runM s t cs).2.1 ∧ (runM s' t (cs.filter wrB)).2.2 = pick wrB cs (runM s t cs).2.2
  | [], s, s', t => ⟨rfl, rfl⟩
  | c :: cs, s, s', t => by
    simp only [runM, pick_cons]
    by_cases hw : isWr c
    · have hr : ¬ isRd c := by unfold isWr at hw; unfold isRd; omega
      have hx : ∀ s, callM s t c = (s, (wrCall t c).1, (wrCall t c).2) := by intro s; unfold callM; rw [if_neg hr, if_pos hw]
      have hb : wrB c = true := by simpa [wrB] using hw
      rw [List.filter_cons, if_pos hb, if_pos hb]
      simp only [runM, hx]
      obtain ⟨h1, h2⟩ := apart_wr cs s s' (wrCall t c).1
      exact ⟨h1, by rw [h2]; rfl⟩
    · have hb : ¬ wrB c = true := by simpa [wrB] using hw
      rw [List.filter_cons, if_neg hb, if_neg hb]
      have hs : (callM s t c).2.1 = t := by
        unfold callM; split
        · rfl
        · first | rw [if_neg hw] | rfl
      obtain ⟨h1, h2⟩ := apart_wr cs (callM s t c).1 s' t
      rw [hs]
      exact ⟨h1, by rw [h2]; rfl⟩

/-! ### FnLines -/
def linesN (d : UInt8) : Nat → List UInt8 → List OutD
  | 0, _ => []
  | n + 1, l => ⟨(lineL l d).1, 0, ended (lineL l d).2⟩ :: linesN d n (l.drop (lineL l d).1.length)
def isLine (d : UInt8) (c : CallD) : Prop := (c.kind = 6 ∨ c.kind = 7) ∧ c.delim = d
theorem lines_run (d : UInt8) : ∀ (cs : List CallD) (r : SR), (∀ c ∈ cs, isLine d c) → r.run cs = (linesN d cs.length r.rest, true)
  | [], _, _ => rfl
  | c :: cs, r, h => by
    obtain ⟨hk, hd⟩ := h c (List.mem_cons_self ..)
    have hc : r.call c = (r.read (lineL r.rest c.delim).1.length 0, ⟨(lineL r.rest c.delim).1, 0, ended (lineL r.rest c.delim).2⟩, true) := by
      unfold SR.call
      rw [if_neg (by omega), if_neg (by omega), if_neg (by omega), if_neg (by omega), if_neg (by omega), if_neg (by omega)]
    have := lines_run d cs (r.read (lineL r.rest d).1.length 0) (fun c' h' => h c' (List.mem_cons_of_mem _ h'))
    simp only [SR.run, hc, hd, this, List.length_cons, linesN, rest_read, Bool.and_self]
theorem lineL_prefix (l : List UInt8) (d : UInt8) : (lineL l d).1 ++ l.drop (lineL l d).1.length = l := by
  unfold lineL
  split
  · rename_i h
    have hi := List.idxOf_lt_length_of_mem h
    rw [show (l.take (l.idxOf d + 1), false).1 = l.take (l.idxOf d + 1) from rfl, List.length_take, Nat.min_eq_left (by omega), List.take_append_drop]
  · simp
theorem lineL_pos (l : List UInt8) (d : UInt8) (h : l ≠ []) : 0 < (lineL l d).1.length := by
  have hl : 0 < l.length := List.length_pos_iff.2 h
  unfold lineL
  split
  · rename_i h
    have hi := List.idxOf_lt_length_of_mem h
    simp only [List.length_take]
    omega
  · exact hl
theorem lines_all (d : UInt8) : ∀ (n : Nat) (l : List UInt8), l.length ≤ n → ((linesN d n l).map (·.bytes)).flatten = l
  | 0, l, h => by
    have : l = [] := List.eq_nil_of_length_eq_zero (by omega)
    subst this; rfl
  | n + 1, l, h => by
    simp only [linesN, List.map_cons, List.flatten_cons]
    by_cases h0 : l = []
    · subst h0
      rw [lines_all d n _ (by simp)]
      exact lineL_prefix [] d
    · have := lineL_pos l d h0
      rw [lines_all d n _ (by rw [List.length_drop]; omega)]
      exact lineL_prefix l d
theorem lines_len (d : UInt8) : ∀ (n : Nat) (l : List UInt8), (linesN d n l).length = n
  | 0, _ => rfl
  | n + 1, l => by simp [linesN, lines_len d n]
/-- what FnLines asks of each answer -/
def lineOk (d : UInt8) (o : OutD) : Prop := (o.err = 0 ∧ o.bytes.getLast? = some d) ∨ (o.err = 1 ∧ o.bytes.getLast? ≠ some d)
theorem lines_ok (d : UInt8) : ∀ (n : Nat) (l : List UInt8), ∀ o ∈ linesN d n l, lineOk d o
  | 0, l, o, h => by simp [linesN] at h
  | n + 1, l, o, h => by
    simp only [linesN, List.mem_cons] at h
    rcases h with rfl | h
    · unfold lineL
      by_cases hm : d ∈ l
      · rw [if_pos hm]
        refine .inl ⟨rfl, ?_⟩
        simp only
        rw [take_idx hm]
        simp
      · rw [if_neg hm]
        refine .inr ⟨rfl, fun he => hm ?_⟩
        exact List.mem_of_getLast? he
    · exact lines_ok d n _ o h

/-! ### FnRunes -/
def runesF : Nat → List UInt8 → List (Nat × Nat)
  | 0, _ => []
  | k + 1, l => if l = [] then [] else decM l :: runesF k (l.drop (decM l).2)
def runesL (l : List UInt8) : List (Nat × Nat) := runesF l.length l
theorem runesF_stable : ∀ (k : Nat) (l : List UInt8), l.length ≤ k → runesF k l = runesL l := by
  intro k
  induction k using Nat.strongRecOn with
  | ind k ih =>
    intro l h
    by_cases h0 : l = []
    · subst h0
      rcases k with _ | k
      · rfl
      · simp [runesF, runesL]
    · have hl : 0 < l.length := List.length_pos_iff.2 h0
      obtain ⟨m, hm⟩ : ∃ m, l.length = m + 1 := ⟨l.length - 1, by omega⟩
      obtain ⟨j, rfl⟩ : ∃ j, k = j + 1 := ⟨k - 1, by omega⟩
      unfold runesL
      rw [hm]
      simp only [runesF, if_neg h0]
      have hd := @dec_ge l
      have hlen : (l.drop (decM l).2).length ≤ m := by rw [List.length_drop]; omega
      rw [ih j (by omega) _ (by omega)]
      rcases Nat.lt_or_ge m (j + 1) with hlt | hge
      · rw [ih m hlt _ hlen]
      · omega
theorem runesL_nil : runesL [] = [] := rfl
theorem runesL_cons (l : List UInt8) (h : l ≠ []) : runesL l = decM l :: runesL (l.drop (decM l).2) := by
  have hl : 0 < l.length := List.length_pos_iff.2 h
  obtain ⟨m, hm⟩ : ∃ m, l.length = m + 1 := ⟨l.length - 1, by omega⟩
  have hd := @dec_ge l
  unfold runesL
  rw [hm]
  simp only [runesF, if_neg h]
  rw [runesF_stable m _ (by rw [List.length_drop]; omega)]
  rfl
def runeC : CallD := ⟨1, 0, 0, []⟩
def runeOut (x : Nat × Nat) : OutD := ⟨List.replicate x.2 0, (x.1 : Int), 0⟩
def endOut : OutD := ⟨[], 0, 1⟩
theorem rune_call (r : SR) : r.call runeC = if r.rest = [] then (r.read 0 0, endOut, true) else (r.read (decM r.rest).2 (decM r.rest).2, runeOut (decM r.rest), true) := by
  unfold SR.call
  rw [if_neg (by simp [runeC]), if_pos (by simp [runeC])]
  rfl
theorem runes_run : ∀ (k : Nat) (r : SR), r.rest.length ≤ k → r.run (List.replicate ((runesL r.rest).length + 1) runeC) = ((runesL r.rest).map runeOut ++ [endOut], true) := by
  intro k
  induction k with
  | zero =>
    intro r h
    have h0 : r.rest = [] := List.eq_nil_of_length_eq_zero (by omega)
    rw [h0, runesL_nil]
    simp [SR.run, rune_call, h0, List.replicate]
  | succ k ih =>
    intro r h
    by_cases h0 : r.rest = []
    · rw [h0, runesL_nil]
      simp [SR.run, rune_call, h0, List.replicate]
    · have hd := @dec_ge r.rest
      have := ih (r.read (decM r.rest).2 (decM r.rest).2) (by rw [rest_read, List.length_drop]; omega)
      rw [rest_read] at this
      rw [runesL_cons _ h0, List.length_cons, List.replicate_succ]
      simp only [SR.run, rune_call, if_neg h0, this, List.map_cons, List.cons_append, Bool.and_self]
theorem runes_len (l : List UInt8) : (runesL l).length ≤ l.length := by
  have : ∀ (k : Nat) (l : List UInt8), (runesF k l).length ≤ k := by
    intro k
    induction k with
    | zero => intro l; simp [runesF]
    | succ k ih =>
      intro l
      simp only [runesF]
      split
      · simp
      · have := ih (l.drop (decM l).2); simp only [List.length_cons]; omega
  exact this _ _

/-! ### FnRunesWritten -/
/-- what is no rune is the replacement character -/
def fixR (x : Int) : Nat := if x < 0 ∨ 1114111 < x ∨ (55296 ≤ x ∧ x ≤ 57343) then 65533 else x.toNat
theorem b_nat {x : Int} (h : 0 ≤ x ∧ x < 256) : ((x.toNat.toUInt8).toNat : Int) = x := by
  have : (x.toNat.toUInt8).toNat = x.toNat := by
    show (UInt8.ofNat x.toNat).toNat = _
    rw [UInt8.toNat_ofNat']; omega
  rw [this]; omega
theorem b_nat' {x : Int} (h : 0 ≤ x ∧ x < 256) : (x.toNat.toUInt8).toNat = x.toNat := by
  show (UInt8.ofNat x.toNat).toNat = _
  rw [UInt8.toNat_ofNat']; omega
set_option maxHeartbeats 1000000 in
theorem dec_enc (x : Int) (rest : List UInt8) : decM (encM x ++ rest) = (fixR x, (encM x).length) := by
  unfold encM Lib.encodeRune
  by_cases h1 : 0 ≤ x ∧ x ≤ 127
  · rw [Lib.encodeRuneZ_one h1.1 h1.2]
    have e := b_nat' (x := x) (by omega)
    simp only [decM, List.map_cons, List.map_nil, List.cons_append, List.nil_append, List.getD_cons_zero, List.length_cons, List.length_nil, e]
    unfold Lib.decodeN fixR
    rw [if_pos (by omega), if_neg (by omega)]
  by_cases h2 : 128 ≤ x ∧ x ≤ 2047
  · rw [Lib.encodeRuneZ_two h2.1 h2.2]
    have e0 := b_nat' (x := 192 + x / 64) (by omega)
    have e1 := b_nat' (x := 128 + x % 64) (by omega)
    simp only [decM, List.map_cons, List.map_nil, List.cons_append, List.nil_append, List.getD_cons_zero, List.getD_cons_succ, List.length_cons, List.length_nil, e0, e1]
    unfold Lib.decodeN fixR
    rw [if_neg (by omega), if_pos (by omega), if_pos (by omega), if_neg (by omega)]
    exact Prod.ext (by simp only; omega) rfl
  by_cases h3 : (2048 ≤ x ∧ x < 55296) ∨ (57343 < x ∧ x ≤ 65535)
  · rw [Lib.encodeRuneZ_three h3]
    have e0 := b_nat' (x := 224 + x / 4096) (by omega)
    have e1 := b_nat' (x := 128 + x / 64 % 64) (by omega)
    have e2 := b_nat' (x := 128 + x % 64) (by omega)
    simp only [decM, List.map_cons, List.map_nil, List.cons_append, List.nil_append, List.getD_cons_zero, List.getD_cons_succ, List.length_cons, List.length_nil, e0, e1, e2]
    unfold Lib.decodeN fixR
    rw [if_neg (by omega), if_neg (by omega), if_pos (by omega), if_pos (by omega), if_neg (by omega)]
    exact Prod.ext (by simp only; omega) rfl
  by_cases h4 : 65536 ≤ x ∧ x ≤ 1114111
  · rw [Lib.encodeRuneZ_four h4.1 h4.2]
    have e0 := b_nat' (x := 240 + x / 262144) (by omega)
    have e1 := b_nat' (x := 128 + x / 4096 % 64) (by omega)
    have e2 := b_nat' (x := 128 + x / 64 % 64) (by omega)
    have e3 := b_nat' (x := 128 + x % 64) (by omega)
    simp only [decM, List.map_cons, List.map_nil, List.cons_append, List.nil_append, List.getD_cons_zero, List.getD_cons_succ, List.length_cons, List.length_nil, e0, e1, e2, e3]
    unfold Lib.decodeN fixR
    rw [if_neg (by omega), if_neg (by omega), if_neg (by omega), if_pos (by omega), if_pos (by omega), if_neg (by omega)]
    exact Prod.ext (by simp only; omega) rfl
  · rw [Lib.encodeRuneZ_bad (by omega)]
    have e0 := b_nat' (x := 239) (by omega)
    have e1 := b_nat' (x := 191) (by omega)
    have e2 := b_nat' (x := 189) (by omega)
    simp only [decM, List.map_cons, List.map_nil, List.cons_append, List.nil_append, List.getD_cons_zero, List.getD_cons_succ, List.length_cons, List.length_nil, e0, e1, e2]
    unfold Lib.decodeN fixR
    rw [if_pos (show x < 0 ∨ 1114111 < x ∨ (55296 ≤ x ∧ x ≤ 57343) by omega)]
    simp
theorem enc_ne (x : Int) (rest : List UInt8) : encM x ++ rest ≠ [] := by
  have := (encM_len x).1
  intro h
  rw [(List.append_eq_nil_iff.1 h).1] at this
  simp at this
def byteC : CallD := ⟨0, 0, 0, []⟩
/-- runes that were written are read again -/
theorem written_run : ∀ (xs : List Int) (r : SR), r.rest = (xs.map encM).flatten → r.run (List.replicate xs.length runeC ++ [byteC]) = (xs.map (fun x => runeOut (fixR x, (encM x).length)) ++ [endOut], true)
  | [], r, h => by
    simp only [List.map_nil, List.flatten_nil] at h
    simp [SR.run, byteC, SR.call, h, endOut]
  | x :: xs, r, h => by
    simp only [List.map_cons, List.flatten_cons] at h
    have hd := dec_enc x (xs.map encM).flatten
    rw [← h] at hd
    have h0 : r.rest ≠ [] := by rw [h]; exact enc_ne x _
    have := written_run xs (r.read (encM x).length (encM x).length) (by rw [rest_read, h, List.drop_left])
    rw [List.length_cons, List.replicate_succ, List.cons_append]
    simp only [SR.run, rune_call, if_neg h0, hd, this, List.map_cons, List.cons_append, Bool.and_self]
def wruneC (x : Int) : CallD := ⟨10, x, 0, []⟩
theorem wrote_wrune (x : Int) (h : -2147483648 ≤ x ∧ x ≤ 2147483647) : wrote (wruneC x) = encM x := by
  unfold wrote
  rw [if_neg (by simp [wruneC]), if_neg (by simp [wruneC]), if_pos (by simp [wruneC])]
  show encM (IntKind.i32.wrap x) = _
  rw [show IntKind.i32.wrap x = x from IntWalk.i32_in x (by omega)]
end Go.Proofs.YtancmlapnhccdaaDoor
