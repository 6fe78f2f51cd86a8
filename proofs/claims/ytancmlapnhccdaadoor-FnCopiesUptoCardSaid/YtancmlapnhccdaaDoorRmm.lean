/- Joined by merge.py out of: Rm, Sp, Ag, Ah, Rx. -/
import Derived.Test.YtancmlapnhccdaaDoorMach
import Derived.Lib.DecodeNEq

/- bufio.Reader's methods as a machine over lists. No program in sight. -/
namespace Go.Proofs.YtancmlapnhccdaaDoor

/-! ### a loop that fills while a test asks for it -/
def meas (s : RS) : Nat := if s.eof then 0 else 1 + s.src.flatten.length
def fillWhile (c : RS → Bool) : Nat → RS → RS
  | 0, s => s
  | k + 1, s => if c s then fillWhile c k (fillM s) else s
def fillW (c : RS → Bool) (s : RS) : RS := fillWhile c (meas s) s
/-- a test that asks for more only where there is room and no error -/
def Asks (c : RS → Bool) : Prop := ∀ s : RS, s.Ok → c s = true → s.eof = false ∧ s.w - s.r < s.buf.length

theorem meas_fill (s : RS) (h : s.Ok) (he : s.eof = false) (hn : s.w - s.r < s.buf.length) : meas (fillM s) < meas s := by
  have hf := fillM_filled s h hn
  have h2 := fillM_ok s h
  rcases hf.more with ⟨_, a, _, _⟩ | ⟨_, b, c⟩
  · simp [meas, a, he]; omega
  · have hl := congrArg List.length hf.left
    simp only [left, List.length_append] at hl
    simp only [meas, b, he, Bool.false_eq_true, if_false]
    omega

theorem fillWhile_stable {c : RS → Bool} (hc : Asks c) : ∀ (k : Nat) (s : RS), s.Ok → meas s ≤ k → fillWhile c k s = fillWhile c (meas s) s := by
  intro k
  induction k using Nat.strongRecOn with
  | ind k ih =>
    intro s hs hk
    rcases k with _ | k
    · have : meas s = 0 := by omega
      rw [this]
    · by_cases h : c s = true
      · obtain ⟨he, hn⟩ := hc s hs h
        have hm := meas_fill s hs he hn
        obtain ⟨m, hm'⟩ : ∃ m, meas s = m + 1 := ⟨meas s - 1, by omega⟩
        rw [hm']
        simp only [fillWhile, if_pos h]
        rw [ih k (by omega) (fillM s) (fillM_ok s hs) (by omega)]
        rcases Nat.lt_or_ge m k with hlt | hge
        · rw [ih m (by omega) (fillM s) (fillM_ok s hs) (by omega)]
        · have : m = k := by omega
          subst this
          rw [ih m (by omega) (fillM s) (fillM_ok s hs) (by omega)]
      · have e1 : fillWhile c (k + 1) s = s := by simp [fillWhile, h]
        rw [e1]
        rcases meas s with _ | m
        · rfl
        · simp [fillWhile, h]

theorem fillW_more {c : RS → Bool} (hc : Asks c) (s : RS) (hs : s.Ok) (h : c s = true) : fillW c s = fillW c (fillM s) := by
  obtain ⟨he, hn⟩ := hc s hs h
  have hm := meas_fill s hs he hn
  unfold fillW
  obtain ⟨m, hm'⟩ : ∃ m, meas s = m + 1 := ⟨meas s - 1, by omega⟩
  rw [hm']
  simp only [fillWhile, if_pos h]
  exact fillWhile_stable hc m (fillM s) (fillM_ok s hs) (by omega)
theorem fillW_done {c : RS → Bool} (s : RS) (h : c s = false) : fillW c s = s := by
  unfold fillW
  rcases meas s with _ | m
  · rfl
  · simp [fillWhile, h]

/-- what filling leaves as it was -/
structure FillsTo (s t : RS) : Prop where
  ok : t.Ok
  left : left t = left s
  len : t.buf.length = s.buf.length
  lb : t.lb = s.lb
  lr : t.lr = s.lr
  more : (avail s).length ≤ (avail t).length
  eof : (s.eof = true → s.src.flatten = []) → t.eof = true → t.src.flatten = []
  r0 : t = s ∨ t.r = 0
theorem FillsTo.refl (s : RS) (h : s.Ok) : FillsTo s s := ⟨h, rfl, rfl, rfl, rfl, Nat.le_refl _, fun h => h, .inl rfl⟩
theorem FillsTo.trans {s t u : RS} (h : FillsTo s t) (k : FillsTo t u) : FillsTo s u :=
  ⟨k.ok, k.left.trans h.left, k.len.trans h.len, k.lb.trans h.lb, k.lr.trans h.lr, Nat.le_trans h.more k.more, fun e => k.eof (h.eof e), by
    rcases k.r0 with e | e
    · rw [e]; exact h.r0
    · exact .inr e⟩
theorem FillsTo.fill {s : RS} (h : s.Ok) (hn : s.w - s.r < s.buf.length) : FillsTo s (fillM s) := by
  have hf := fillM_filled s h hn
  refine ⟨fillM_ok s h, hf.left, hf.len, hf.lb, hf.lr, ?_, ?_, .inr hf.r⟩
  · rcases hf.more with ⟨_, _, _, d⟩ | ⟨_, _, c⟩
    · rw [d]; exact Nat.le_refl _
    · omega
  · intro he ht
    rcases hf.more with ⟨_, _, d, _⟩ | ⟨a, b, _⟩
    · rw [d]; rfl
    · rw [b] at ht
      exact absurd (he ht) a
theorem fillW_fills {c : RS → Bool} (hc : Asks c) : ∀ (s : RS), s.Ok → FillsTo s (fillW c s) ∧ c (fillW c s) = false := by
  intro s
  generalize hk : meas s = k
  induction k using Nat.strongRecOn generalizing s with
  | ind k ih =>
    intro hs
    by_cases h : c s = true
    · obtain ⟨he, hn⟩ := hc s hs h
      have hm := meas_fill s hs he hn
      rw [fillW_more hc s hs h]
      obtain ⟨i1, i2⟩ := ih (meas (fillM s)) (by omega) (fillM s) rfl (fillM_ok s hs)
      exact ⟨(FillsTo.fill hs hn).trans i1, i2⟩
    · have h' : c s = false := by simpa using h
      rw [fillW_done s h']
      exact ⟨FillsTo.refl s hs, h'⟩

/-! ### the methods -/
/-- no byte and no rune can be unread -/
def noBack (s : RS) : RS := { s with lb := -1, lr := -1 }
/-- the pending error, and it is gone -/
def errM (s : RS) : RS × Nat := ({ s with eof := false }, if s.eof then 1 else 0)

def cByte (s : RS) : Bool := s.r == s.w && !s.eof
theorem cByte_asks : Asks cByte := by
  intro s h hc
  simp [cByte] at hc
  have := h.lo
  exact ⟨hc.2, by omega⟩
def byteAt (s : RS) (i : Nat) : UInt8 := s.buf.getD i 0
def readByteE (t : RS) : RS × UInt8 × Nat :=
  if t.r = t.w then ({ t with eof := false }, 0, if t.eof then 1 else 0) else ({ t with r := t.r + 1, lb := ((byteAt t t.r).toNat : Int) }, byteAt t t.r, 0)
def readByteM (s : RS) : RS × UInt8 × Nat := readByteE (fillW cByte { s with lr := -1 })

def unreadByteM (s : RS) : RS × Nat :=
  if s.lb < 0 ∨ (s.r = 0 ∧ 0 < s.w) then (s, 2)
  else if 0 < s.r then ({ s with r := s.r - 1, buf := splice s.buf (s.r - 1) [UInt8.ofNat s.lb.toNat], lb := -1, lr := -1 }, 0)
  else ({ s with w := 1, buf := splice s.buf 0 [UInt8.ofNat s.lb.toNat], lb := -1, lr := -1 }, 0)
def unreadRuneM (s : RS) : RS × Nat :=
  if s.lr < 0 ∨ (s.r : Int) < s.lr then (s, 3) else ({ s with r := s.r - s.lr.toNat, lb := -1, lr := -1 }, 0)

def cPeek (n : Nat) (s : RS) : Bool := decide (s.w - s.r < n) && decide (s.w - s.r < s.buf.length) && !s.eof
theorem cPeek_asks (n : Nat) : Asks (cPeek n) := by
  intro s h hc
  simp [cPeek] at hc
  exact ⟨hc.2, hc.1.2⟩
def peekE (n : Nat) (t : RS) : RS × List UInt8 × Nat :=
  if t.buf.length < n then (t, avail t, 5)
  else if t.w - t.r < n then ({ t with eof := false }, avail t, if t.eof then 1 else 5)
  else (t, (avail t).take n, 0)
def peekM (n : Int) (s : RS) : RS × List UInt8 × Nat := if n < 0 then (s, [], 4) else peekE n.toNat (fillW (cPeek n.toNat) (noBack s))

/-- one round of Discard: n bytes are still to be passed over -/
def discF : Nat → Nat → RS → RS × Nat × Nat
  | 0, n, s => (s, n, 0)
  | k + 1, n, s =>
    let t := if s.w - s.r = 0 then fillM s else s
    let m := min (t.w - t.r) n
    let u := { t with r := t.r + m }
    if n - m = 0 then (u, 0, 0) else if u.eof then ({ u with eof := false }, n - m, 1) else discF k (n - m) u
/-- what is left, and the end -/
def dmeas (s : RS) : Nat := (left s).length + 1
def discardM (n : Int) (s : RS) : RS × Nat × Nat :=
  if n < 0 then (s, 0, 4) else if n = 0 then (s, 0, 0) else
  let x := discF (dmeas (noBack s)) n.toNat (noBack s)
  (x.1, n.toNat - x.2.1, x.2.2)

/-- the first rune and its size -/
def decM (l : List UInt8) : Nat × Nat := Go.Lib.decodeN l.length (l.getD 0 0).toNat (l.getD 1 0).toNat (l.getD 2 0).toNat (l.getD 3 0).toNat
/-- whether bytes begin with a whole rune, or with what is no rune -/
def fullM (l : List UInt8) : Bool :=
  if l.length = 0 then false
  else
    let x := Go.Lib.firstT (l.getD 0 0).toNat
    if x % 8 ≤ l.length then true
    else if 1 < l.length ∧ ((l.getD 1 0).toNat < Go.Lib.accLo (x / 16) ∨ Go.Lib.accHi (x / 16) < (l.getD 1 0).toNat) then true
    else if 2 < l.length ∧ ((l.getD 2 0).toNat < 128 ∨ 191 < (l.getD 2 0).toNat) then true
    else false
def cRune (s : RS) : Bool := decide (s.w < s.r + 4) && !fullM (avail s) && !s.eof && decide (s.w - s.r < s.buf.length)
theorem cRune_asks : Asks cRune := by
  intro s h hc
  simp [cRune] at hc
  exact ⟨hc.1.2, hc.2⟩
def readRuneE (t : RS) : RS × Nat × Nat × Nat :=
  if t.r = t.w then ({ t with lr := -1, eof := false }, 0, 0, if t.eof then 1 else 0)
  else
    let d := decM (avail t)
    ({ t with r := t.r + d.2, lb := ((byteAt t (t.r + d.2 - 1)).toNat : Int), lr := (d.2 : Int) }, d.1, d.2, 0)
def readRuneM (s : RS) : RS × Nat × Nat × Nat := readRuneE (fillW cRune s)

/-- where a byte stands first -/
def idx (b : UInt8) (l : List UInt8) : Option Nat := if b ∈ l then some (l.idxOf b) else none
def cSlice (b : UInt8) (s : RS) : Bool := !(decide (b ∈ avail s)) && !s.eof && decide (s.w - s.r < s.buf.length)
theorem cSlice_asks (b : UInt8) : Asks (cSlice b) := by
  intro s h hc
  simp [cSlice] at hc
  exact ⟨hc.1.2, hc.2⟩
/-- the last byte of a line can be unread -/
def lastM (line : List UInt8) (s : RS) : RS := match line.getLast? with
  | none => s
  | some b => { s with lb := (b.toNat : Int), lr := -1 }
def sliceE (b : UInt8) (t : RS) : RS × List UInt8 × Nat :=
  if b ∈ avail t then
    let line := (avail t).take ((avail t).idxOf b + 1)
    (lastM line { t with r := t.r + line.length }, line, 0)
  else if t.eof then (lastM (avail t) { t with r := t.w, eof := false }, avail t, 1)
  else (lastM (avail t) { t with r := t.w }, avail t, 5)
def sliceM (b : UInt8) (s : RS) : RS × List UInt8 × Nat := sliceE b (fillW (cSlice b) s)
/-- the full buffers ahead, the last part, the error -/
def collF (b : UInt8) : Nat → RS → List (List UInt8) → RS × List (List UInt8) × List UInt8 × Nat
  | 0, s, full => (s, full, [], 0)
  | k + 1, s, full =>
    let x := sliceM b s
    if x.2.2 = 5 then collF b k x.1 (full ++ [x.2.1]) else (x.1, full, x.2.1, x.2.2)
def collM (b : UInt8) (s : RS) : RS × List (List UInt8) × List UInt8 × Nat := collF b (dmeas s) s []
def lineM (b : UInt8) (s : RS) : RS × List UInt8 × Nat :=
  let x := collM b s
  (x.1, x.2.1.flatten ++ x.2.2.1, x.2.2.2)
end Go.Proofs.YtancmlapnhccdaaDoor

/- The reference's reader as a machine over lists, and: the library's reader answers what it says, as far as it tells that. No program in sight. -/
namespace Go.Proofs.YtancmlapnhccdaaDoor

/-- a call -/
structure CallD where
  kind : Int
  n : Int
  delim : UInt8
  bytes : List UInt8
/-- what a call answers -/
structure OutD where
  bytes : List UInt8
  n : Int
  err : Nat
deriving DecidableEq
def noOut : OutD := ⟨[], 0, 0⟩

/-- the reference's reader -/
structure SR where
  data : List UInt8
  pos : Nat
  bytes : Bool
  size : Nat
  doubt : Bool
def SR.rest (r : SR) : List UInt8 := r.data.drop r.pos
def SR.read (r : SR) (n size : Nat) : SR := { r with pos := r.pos + n, bytes := decide (0 < n), size := size, doubt := decide (n = 0) }
def SR.back (r : SR) (n : Nat) : SR := { r with pos := r.pos - n, bytes := false, size := 0, doubt := false }
def SR.on (r : SR) (n : Nat) : SR := { r with pos := r.pos + n, bytes := false, size := 0, doubt := false }
def ended (b : Bool) : Nat := if b then 1 else 0
/-- up to a delimiter -/
def lineL (l : List UInt8) (d : UInt8) : List UInt8 × Bool := if d ∈ l then (l.take (l.idxOf d + 1), false) else (l, true)

def SR.call (r : SR) (c : CallD) : SR × OutD × Bool :=
  if c.kind = 0 then (if r.rest = [] then (r.read 0 0, ⟨[], 0, 1⟩, true) else (r.read 1 0, ⟨[], ((r.rest.getD 0 0).toNat : Int), 0⟩, true))
  else if c.kind = 1 then (if r.rest = [] then (r.read 0 0, ⟨[], 0, 1⟩, true) else
    (r.read (decM r.rest).2 (decM r.rest).2, ⟨List.replicate (decM r.rest).2 0, ((decM r.rest).1 : Int), 0⟩, true))
  else if c.kind = 2 then (if r.doubt then (r, noOut, false) else if r.bytes then (r.back 1, noOut, true) else (r, ⟨[], 0, 2⟩, true))
  else if c.kind = 3 then (if r.doubt then (r, noOut, false) else if r.size = 0 then ({ r with doubt := r.bytes }, ⟨[], 0, 3⟩, true) else (r.back r.size, noOut, true))
  else if c.kind = 4 then (if c.n < 0 then ({ r with doubt := r.doubt || r.bytes }, ⟨[], 0, 4⟩, true) else
    (r.on 0, ⟨r.rest.take c.n.toNat, 0, ended (decide (r.rest.length < c.n.toNat))⟩, decide (c.n ≤ 16)))
  else if c.kind = 5 then (if c.n < 0 then ({ r with doubt := r.doubt || r.bytes }, ⟨[], 0, 4⟩, true) else if c.n = 0 then ({ r with doubt := r.doubt || r.bytes }, noOut, true) else
    (r.on (min c.n.toNat r.rest.length), ⟨[], (min c.n.toNat r.rest.length : Nat), ended (decide (r.rest.length < c.n.toNat))⟩, true))
  else (r.read (lineL r.rest c.delim).1.length 0, ⟨(lineL r.rest c.delim).1, 0, ended (lineL r.rest c.delim).2⟩, true)

/-- the library's reader, by the same calls -/
def rdCall (s : RS) (c : CallD) : RS × OutD :=
  if c.kind = 0 then ((readByteM s).1, ⟨[], ((readByteM s).2.1.toNat : Int), (readByteM s).2.2⟩)
  else if c.kind = 1 then ((readRuneM s).1, ⟨List.replicate (readRuneM s).2.2.1 0, ((readRuneM s).2.1 : Int), (readRuneM s).2.2.2⟩)
  else if c.kind = 2 then ((unreadByteM s).1, ⟨[], 0, (unreadByteM s).2⟩)
  else if c.kind = 3 then ((unreadRuneM s).1, ⟨[], 0, (unreadRuneM s).2⟩)
  else if c.kind = 4 then ((peekM c.n s).1, ⟨(peekM c.n s).2.1, 0, (peekM c.n s).2.2⟩)
  else if c.kind = 5 then ((discardM c.n s).1, ⟨[], ((discardM c.n s).2.1 : Int), (discardM c.n s).2.2⟩)
  else ((lineM c.delim s).1, ⟨(lineM c.delim s).2.1, 0, (lineM c.delim s).2.2⟩)

/-! ### small facts -/
theorem left_split (s : RS) : left s = avail s ++ s.src.flatten := rfl
theorem avail_nil {s : RS} (h : s.Ok) : avail s = [] ↔ s.r = s.w := by
  have hl := avail_length s h
  have := h.rw
  constructor
  · intro e; rw [e] at hl; simp at hl; omega
  · intro e; exact List.eq_nil_of_length_eq_zero (by rw [hl]; omega)
theorem avail_head {s : RS} (h : s.Ok) (hr : s.r < s.w) : ∃ r, avail s = byteAt s s.r :: r := by
  have := h.wn
  have hd : s.buf.drop s.r = byteAt s s.r :: s.buf.drop (s.r + 1) := by
    rw [List.drop_eq_getElem_cons (by omega)]
    simp [byteAt, List.getD, List.getElem?_eq_getElem (show s.r < s.buf.length by omega)]
  refine ⟨(s.buf.drop (s.r + 1)).take (s.w - s.r - 1), ?_⟩
  unfold avail
  rw [hd]
  obtain ⟨k, hk⟩ : ∃ k, s.w - s.r = k + 1 := ⟨s.w - s.r - 1, by omega⟩
  rw [hk]
  simp
/-- reading on by some bytes of the buffer -/
theorem avail_adv {s : RS} (k : Nat) (lb lr : Int) (e : Bool) : avail { s with r := s.r + k, lb := lb, lr := lr, eof := e } = (avail s).drop k := by
  unfold avail
  simp only
  rw [List.drop_take, List.drop_drop]
  congr 1
  omega
theorem left_adv {s : RS} (h : s.Ok) (k : Nat) (hk : k ≤ s.w - s.r) (lb lr : Int) (e : Bool) : left { s with r := s.r + k, lb := lb, lr := lr, eof := e } = (left s).drop k := by
  have hl := avail_length s h
  unfold left
  rw [avail_adv k, List.drop_append_of_le_length (by omega)]
theorem ok_adv {s : RS} (h : s.Ok) (k : Nat) (hk : k ≤ s.w - s.r) (lb lr : Int) (e : Bool) (h1 : -1 ≤ lb) (h2 : lb ≤ 255) (h3 : -1 ≤ lr) (h4 : lr ≤ 4) : ({ s with r := s.r + k, lb := lb, lr := lr, eof := e } : RS).Ok := by
  have := h.rw
  exact ⟨by show s.r + k ≤ s.w; omega, h.wn, h.lo, h.hi, h1, h2, h3, h4⟩
theorem byte_le (b : UInt8) : (b.toNat : Int) ≤ 255 := by have := b.toNat_lt; omega

/-- the two readers stand alike -/
structure Agree (r : SR) (s : RS) : Prop where
  ok : s.Ok
  left : left s = r.rest
  eof : s.eof = true → s.src.flatten = []
  pos : r.pos ≤ r.data.length
  nb : r.doubt = false → r.bytes = false → s.lb < 0
  yb : r.doubt = false → r.bytes = true → 0 < r.pos ∧ s.lb = ((r.data.getD (r.pos - 1) 0).toNat : Int) ∧ (s.r = 0 → s.w = 0)
  nr : r.doubt = false → r.size = 0 → s.lr < 0
  yr : r.doubt = false → r.size ≠ 0 → s.lr = (r.size : Int) ∧ r.size ≤ s.r ∧ r.size ≤ r.pos ∧ (s.buf.drop (s.r - r.size)).take r.size = (r.data.drop (r.pos - r.size)).take r.size ∧ r.bytes = true

theorem noBack_ok {s : RS} (h : s.Ok) : (noBack s).Ok := ⟨h.rw, h.wn, h.lo, h.hi, by simp [noBack], by simp [noBack], by simp [noBack], by simp [noBack]⟩
theorem noBack_left (s : RS) : left (noBack s) = left s := rfl
theorem rest_on (r : SR) (n : Nat) : (r.on n).rest = r.rest.drop n := by simp [SR.rest, SR.on, List.drop_drop]
theorem rest_read (r : SR) (n k : Nat) : (r.read n k).rest = r.rest.drop n := by simp [SR.rest, SR.read, List.drop_drop]
theorem rest_len {r : SR} : r.rest.length = r.data.length - r.pos := by simp [SR.rest]

/-- the readers where nothing can be unread -/
theorem Agree.plain {r : SR} {s : RS} {n : Nat} (ok : s.Ok) (hl : Go.Proofs.YtancmlapnhccdaaDoor.left s = (r.on n).rest) (he : s.eof = true → s.src.flatten = []) (hp : r.pos + n ≤ r.data.length) (h1 : s.lb < 0) (h2 : s.lr < 0) : Agree (r.on n) s where
  ok := ok
  left := hl
  eof := he
  pos := hp
  nb := fun _ _ => h1
  yb := fun _ h => by simp [SR.on] at h
  nr := fun _ _ => h2
  yr := fun _ h => by simp [SR.on] at h
/-- the readers behind nothing that was read -/
theorem Agree.none_ {r : SR} {s : RS} {k : Nat} (ok : s.Ok) (hl : Go.Proofs.YtancmlapnhccdaaDoor.left s = r.rest) (he : s.eof = true → s.src.flatten = []) (hp : r.pos ≤ r.data.length) : Agree (r.read 0 k) s where
  ok := ok
  left := by rw [hl, rest_read]; rfl
  eof := he
  pos := hp
  nb := fun h => by simp [SR.read] at h
  yb := fun h => by simp [SR.read] at h
  nr := fun h => by simp [SR.read] at h
  yr := fun h => by simp [SR.read] at h
/-- the readers behind a byte or a line -/
theorem Agree.some_ {r : SR} {s : RS} {n : Nat} (hn : 0 < n) (ok : s.Ok) (hl : Go.Proofs.YtancmlapnhccdaaDoor.left s = r.rest.drop n) (he : s.eof = true → s.src.flatten = []) (hp : r.pos + n ≤ r.data.length)
    (hb : s.lb = ((r.rest.getD (n - 1) 0).toNat : Int)) (hr : s.lr < 0) (h0 : s.r = 0 → s.w = 0) : Agree (r.read n 0) s where
  ok := ok
  left := by rw [hl, rest_read]
  eof := he
  pos := hp
  nb := fun _ h => by simp [SR.read] at h; omega
  yb := fun _ _ => ⟨by simp [SR.read]; omega, by
    rw [hb]
    simp only [SR.rest, SR.read, List.getD, List.getElem?_drop]
    congr 4
    omega, h0⟩
  nr := fun _ _ => hr
  yr := fun _ h => by simp [SR.read] at h
end Go.Proofs.YtancmlapnhccdaaDoor

/- The library's reader answers what the reference's reader says, as far as it tells that: call by call. No program in sight. -/
namespace Go.Proofs.YtancmlapnhccdaaDoor

theorem fill_agree {r : SR} {s : RS} (h : Agree r s) {c : RS → Bool} (hc : Asks c) (s' : RS) (hok : s'.Ok) (hl : left s' = left s) (he : s'.eof = s.eof) (hs : s'.src = s.src) :
    left (fillW c s') = r.rest ∧ ((fillW c s').eof = true → (fillW c s').src.flatten = []) ∧ (fillW c s').Ok ∧ c (fillW c s') = false ∧ (fillW c s').lb = s'.lb ∧ (fillW c s').lr = s'.lr ∧ (fillW c s').buf.length = s'.buf.length := by
  obtain ⟨hf, hd⟩ := fillW_fills hc s' hok
  exact ⟨by rw [hf.left, hl, h.left], hf.eof (by rw [he, hs]; exact h.eof), hf.ok, hd, hf.lb, hf.lr, hf.len⟩
theorem left_of_end {t : RS} (h : t.src.flatten = []) : left t = avail t := by rw [left_split, h, List.append_nil]

theorem agree_byte {r : SR} {s : RS} (h : Agree r s) (c : CallD) (hk : c.kind = 0) : (rdCall s c).2 = (r.call c).2.1 ∧ Agree (r.call c).1 (rdCall s c).1 := by
  have hok1 : ({ s with lr := -1 } : RS).Ok := ⟨h.ok.rw, h.ok.wn, h.ok.lo, h.ok.hi, h.ok.lb0, h.ok.lb1, by simp, by simp⟩
  obtain ⟨hl, he, hok, hd, hlb, hlr, hln⟩ := fill_agree h cByte_asks { s with lr := -1 } hok1 rfl rfl rfl
  have hrd : readByteM s = readByteE (fillW cByte { s with lr := -1 }) := rfl
  simp only [rdCall, SR.call, hk, if_true, hrd]
  generalize fillW cByte { s with lr := -1 } = t at hl he hok hd hlb hlr hln
  by_cases hrw : t.r = t.w
  · have hav := (avail_nil hok).2 hrw
    have heof : t.eof = true := by simpa [cByte, hrw] using hd
    have hz : r.rest = [] := by rw [← hl, left_of_end (he heof), hav]
    simp only [readByteE, if_pos hrw, if_pos hz, heof, if_true]
    refine ⟨rfl, Agree.none_ ⟨hok.rw, hok.wn, hok.lo, hok.hi, hok.lb0, hok.lb1, hok.lr0, hok.lr1⟩ ?_ (by simp) h.pos⟩
    rw [← hl]; rfl
  · have hlt : t.r < t.w := by have := hok.rw; omega
    obtain ⟨q, hq⟩ := avail_head hok hlt
    have hrest : r.rest = byteAt t t.r :: (q ++ t.src.flatten) := by rw [← hl, left_split, hq]; rfl
    have hz : ¬ r.rest = [] := by rw [hrest]; simp
    have hg : r.rest.getD 0 0 = byteAt t t.r := by rw [hrest]; rfl
    simp only [readByteE, if_neg hrw, if_neg hz, hg, true_and]
    have hadv := left_adv hok 1 (by omega) ((byteAt t t.r).toNat : Int) t.lr t.eof
    have hokA := ok_adv hok 1 (by omega) ((byteAt t t.r).toNat : Int) t.lr t.eof (by omega) (byte_le _) hok.lr0 hok.lr1
    refine Agree.some_ (by omega) hokA (by rw [hadv, hl]) he ?_ ?_ ?_ ?_
    · have e := rest_len (r := r); have := h.pos; rw [hrest] at e; simp at e; omega
    · simp [hrest]
    · show t.lr < 0; rw [hlr]; simp
    · intro e; simp at e

theorem agree_unbyte {r : SR} {s : RS} (h : Agree r s) (c : CallD) (hk : c.kind = 2) (ht : (r.call c).2.2 = true) : (rdCall s c).2 = (r.call c).2.1 ∧ Agree (r.call c).1 (rdCall s c).1 := by
  have e0 : (2 : Int) ≠ 0 := by omega
  have e1 : (2 : Int) ≠ 1 := by omega
  simp only [SR.call, hk, if_neg e0, if_neg e1, if_true] at ht
  simp only [rdCall, SR.call, hk, if_neg e0, if_neg e1, if_true]
  by_cases hd : r.doubt = true
  · rw [if_pos hd] at ht; simp at ht
  have hd' : r.doubt = false := by simpa using hd
  rw [if_neg hd]
  by_cases hb : r.bytes = true
  · obtain ⟨hp, hlb, hz⟩ := h.yb hd' hb
    rw [if_pos hb]
    have hpos := h.pos
    have hnn : ¬ (s.lb < 0 ∨ (s.r = 0 ∧ 0 < s.w)) := by
      rintro (e | ⟨e1, e2⟩)
      · rw [hlb] at e; omega
      · have := hz e1; omega
    have hby : UInt8.ofNat s.lb.toNat = r.data.getD (r.pos - 1) 0 := by
      rw [hlb, Int.toNat_natCast]; exact UInt8.ofNat_toNat
    have hrest : (r.back 1).rest = r.data.getD (r.pos - 1) 0 :: r.rest := by
      simp only [SR.rest, SR.back]
      rw [List.drop_eq_getElem_cons (show r.pos - 1 < r.data.length by omega), show r.pos - 1 + 1 = r.pos by omega]
      simp [List.getD, List.getElem?_eq_getElem (show r.pos - 1 < r.data.length by omega)]
    have hrw := h.ok.rw; have hwn := h.ok.wn; have hlo := h.ok.lo
    have mk : ∀ t : RS, t.Ok → left t = (r.back 1).rest → t.eof = s.eof → t.src = s.src → t.lb = -1 → t.lr = -1 → Agree (r.back 1) t := by
      intro t hok hl he hs h1 h2
      exact ⟨hok, hl, by rw [he, hs]; exact h.eof, by simp [SR.back]; omega, fun _ _ => by rw [h1]; omega, fun _ e => by simp [SR.back] at e, fun _ _ => by rw [h2]; omega, fun _ e => by simp [SR.back] at e⟩
    by_cases hr : 0 < s.r
    · simp only [unreadByteM, if_neg hnn, if_pos hr, hby]
      refine ⟨rfl, mk _ ?_ ?_ rfl rfl rfl rfl⟩
      · have hl : (splice s.buf (s.r - 1) [r.data.getD (r.pos - 1) 0]).length = s.buf.length := length_splice _ _ _ (by simp; omega)
        exact ⟨by show s.r - 1 ≤ s.w; omega, by rw [hl]; exact hwn, by rw [hl]; exact hlo, by rw [hl]; exact h.ok.hi, by simp, by simp, by simp, by simp⟩
      · rw [hrest, ← h.left]
        simp only [left, avail]
        have e : (splice s.buf (s.r - 1) [r.data.getD (r.pos - 1) 0]).drop (s.r - 1) = r.data.getD (r.pos - 1) 0 :: s.buf.drop s.r := by
          unfold splice
          rw [List.drop_append_of_le_length (by simp; omega), List.drop_of_length_le (by simp; omega)]
          simp
          congr 1
          omega
        rw [e, show s.w - (s.r - 1) = (s.w - s.r) + 1 by omega]
        simp
    · have hr0 : s.r = 0 := by omega
      have hw0 := hz hr0
      simp only [unreadByteM, if_neg hnn, if_neg hr, hby]
      refine ⟨rfl, mk _ ?_ ?_ rfl rfl rfl rfl⟩
      · have hl : (splice s.buf 0 [r.data.getD (r.pos - 1) 0]).length = s.buf.length := length_splice _ _ _ (by simp; omega)
        exact ⟨by show s.r ≤ 1; omega, by rw [hl]; show 1 ≤ _; omega, by rw [hl]; exact hlo, by rw [hl]; exact h.ok.hi, by simp, by simp, by simp, by simp⟩
      · rw [hrest, ← h.left]
        simp only [left, avail, hr0, hw0, splice]
        simp
  · have hb' : r.bytes = false := by simpa using hb
    rw [if_neg hb]
    have hn := h.nb hd' hb'
    simp only [unreadByteM, if_pos (Or.inl hn)]
    exact ⟨trivial, h⟩

theorem agree_unrune {r : SR} {s : RS} (h : Agree r s) (c : CallD) (hk : c.kind = 3) (ht : (r.call c).2.2 = true) : (rdCall s c).2 = (r.call c).2.1 ∧ Agree (r.call c).1 (rdCall s c).1 := by
  have e0 : (3 : Int) ≠ 0 := by omega
  have e1 : (3 : Int) ≠ 1 := by omega
  have e2 : (3 : Int) ≠ 2 := by omega
  simp only [SR.call, hk, if_neg e0, if_neg e1, if_neg e2, if_true] at ht
  simp only [rdCall, SR.call, hk, if_neg e0, if_neg e1, if_neg e2, if_true]
  by_cases hd : r.doubt = true
  · rw [if_pos hd] at ht; simp at ht
  have hd' : r.doubt = false := by simpa using hd
  rw [if_neg hd]
  by_cases hz : r.size = 0
  · rw [if_pos hz]
    have hn := h.nr hd' hz
    simp only [unreadRuneM, if_pos (Or.inl hn)]
    refine ⟨by first | trivial | rfl, ⟨h.ok, h.left, h.eof, h.pos, fun _ e => h.nb hd' e, fun e1 e2 => ?_, fun _ _ => hn, fun _ e => absurd hz e⟩⟩
    simp only at e1 e2
    rw [e1] at e2; cases e2
  · rw [if_neg hz]
    obtain ⟨h1, h2, h3, h4, h5⟩ := h.yr hd' hz
    have hnn : ¬ (s.lr < 0 ∨ (s.r : Int) < s.lr) := by rw [h1]; omega
    simp only [unreadRuneM, if_neg hnn]
    have hrw := h.ok.rw; have hwn := h.ok.wn; have hpos := h.pos
    rw [h1, Int.toNat_natCast]
    refine ⟨rfl, ⟨⟨by show s.r - r.size ≤ s.w; omega, hwn, h.ok.lo, h.ok.hi, by simp, by simp, by simp, by simp⟩, ?_, h.eof, by simp [SR.back]; omega, fun _ _ => by simp, fun _ e => by simp [SR.back] at e, fun _ _ => by simp, fun _ e => by simp [SR.back] at e⟩⟩
    have e1 : (r.back r.size).rest = (r.data.drop (r.pos - r.size)).take r.size ++ r.rest := by
      simp only [SR.rest, SR.back]
      conv => lhs; rw [← List.take_append_drop r.size (r.data.drop (r.pos - r.size)), List.drop_drop]
      congr 2
      omega
    rw [e1, ← h4, ← h.left]
    simp only [left, avail]
    rw [← List.append_assoc]
    congr 1
    conv => lhs; rw [show s.w - (s.r - r.size) = r.size + (s.w - s.r) by omega, List.take_add, List.drop_drop]
    congr 3
    omega

theorem agree_peek {r : SR} {s : RS} (h : Agree r s) (c : CallD) (hk : c.kind = 4) (ht : (r.call c).2.2 = true) : (rdCall s c).2 = (r.call c).2.1 ∧ Agree (r.call c).1 (rdCall s c).1 := by
  have e0 : (4 : Int) ≠ 0 := by omega
  have e1 : (4 : Int) ≠ 1 := by omega
  have e2 : (4 : Int) ≠ 2 := by omega
  have e3 : (4 : Int) ≠ 3 := by omega
  simp only [SR.call, hk, if_neg e0, if_neg e1, if_neg e2, if_neg e3, if_true] at ht
  simp only [rdCall, SR.call, hk, if_neg e0, if_neg e1, if_neg e2, if_neg e3, if_true]
  by_cases hn : c.n < 0
  · simp only [peekM, if_pos hn]
    refine ⟨by first | trivial | rfl, ⟨h.ok, h.left, h.eof, h.pos, fun e => ?_, fun e => ?_, fun e => ?_, fun e => ?_⟩⟩ <;> simp only [Bool.or_eq_false_iff] at e
    · exact h.nb e.1
    · exact h.yb e.1
    · exact h.nr e.1
    · exact h.yr e.1
  · rw [if_neg hn] at ht
    simp only [peekM, if_neg hn]
    have hle : c.n.toNat ≤ 16 := by simp at ht; omega
    generalize c.n.toNat = n at hle
    obtain ⟨hl, he, hok, hd, hlb, hlr, hln⟩ := fill_agree h (cPeek_asks n) (noBack s) (noBack_ok h.ok) rfl rfl rfl
    generalize fillW (cPeek n) (noBack s) = t at hl he hok hd hlb hlr hln
    have hlo := hok.lo
    have hal := avail_length t hok
    have hnl : ¬ t.buf.length < n := by omega
    by_cases hs : t.w - t.r < n
    · have heof : t.eof = true := by
        have : t.w - t.r < t.buf.length := by omega
        simpa [cPeek, hs, this] using hd
      have hend := left_of_end (he heof)
      have hrest : r.rest = avail t := by rw [← hl, hend]
      simp only [peekE, if_neg hnl, if_pos hs, heof, if_true]
      have hlt : r.rest.length < n := by rw [hrest, hal]; omega
      refine ⟨?_, Agree.plain (n := 0) ⟨hok.rw, hok.wn, hok.lo, hok.hi, hok.lb0, hok.lb1, hok.lr0, hok.lr1⟩ ?_ (by simp) (by have := h.pos; omega) (by show t.lb < 0; rw [hlb]; simp [noBack]) (by show t.lr < 0; rw [hlr]; simp [noBack])⟩
      · rw [List.take_of_length_le (by omega), decide_eq_true hlt, hrest]
        rfl
      · rw [rest_on, ← hl]; rfl
    · simp only [peekE, if_neg hnl, if_neg hs]
      have hge : ¬ r.rest.length < n := by
        rw [← hl, left_split, List.length_append, hal]; omega
      refine ⟨?_, Agree.plain (n := 0) hok ?_ he (by have := h.pos; omega) (by rw [hlb]; simp [noBack]) (by rw [hlr]; simp [noBack])⟩
      · rw [decide_eq_false hge, ← hl, left_split, List.take_append_of_le_length (by omega)]
        rfl
      · rw [rest_on, ← hl]; rfl

/-- what Discard's rounds come to -/
theorem disc_spec : ∀ (k n : Nat) (s : RS), s.Ok → 0 < n → (left s).length < k → (s.eof = true → s.src.flatten = []) →
    (discF k n s).1.Ok ∧ left (discF k n s).1 = (left s).drop (min n (left s).length) ∧ ((discF k n s).1.eof = true → (discF k n s).1.src.flatten = []) ∧ (discF k n s).1.lb = s.lb ∧ (discF k n s).1.lr = s.lr ∧
      (discF k n s).2.1 = n - min n (left s).length ∧ (discF k n s).2.2 = ended (decide ((left s).length < n)) := by
  intro k
  induction k with
  | zero => intro n s _ _ h; omega
  | succ k ih =>
    intro n s hok hn hk he
    obtain ⟨t, htd⟩ : ∃ t, t = (if s.w - s.r = 0 then fillM s else s) := ⟨_, rfl⟩
    have ht : t.Ok ∧ left t = left s ∧ (t.eof = true → t.src.flatten = []) ∧ t.lb = s.lb ∧ t.lr = s.lr ∧ (t.w - t.r = 0 → t.eof = true) := by
      by_cases h0 : s.w - s.r = 0
      · rw [if_pos h0] at htd
        have hlo := hok.lo
        have hf := FillsTo.fill hok (by omega)
        have hf2 := fillM_filled s hok (by omega)
        subst htd
        refine ⟨hf.ok, hf.left, hf.eof he, hf.lb, hf.lr, fun e => ?_⟩
        rcases hf2.more with ⟨_, a, _, _⟩ | ⟨_, _, b⟩
        · exact a
        · rw [avail_length _ hok, avail_length _ hf.ok] at b; omega
      · rw [if_neg h0] at htd
        subst htd
        exact ⟨hok, rfl, he, rfl, rfl, fun e => absurd e h0⟩
    obtain ⟨tok, tl, te, tb, tr, t0⟩ := ht
    have tal := avail_length t tok
    have trw := tok.rw
    obtain ⟨m, hm⟩ : ∃ m, m = min (t.w - t.r) n := ⟨_, rfl⟩
    have hml : m ≤ t.w - t.r := by omega
    have hleft : (left s).length = (t.w - t.r) + t.src.flatten.length := by rw [← tl, left_split, List.length_append, tal]
    have hu := left_adv tok m hml t.lb t.lr t.eof
    have huo := ok_adv tok m hml t.lb t.lr t.eof tok.lb0 tok.lb1 tok.lr0 tok.lr1
    have hstep : discF (k + 1) n s = if n - m = 0 then ({ t with r := t.r + m }, 0, 0) else if t.eof then ({ t with r := t.r + m, eof := false }, n - m, 1) else discF k (n - m) { t with r := t.r + m } := by
      simp only [discF]
      rw [← htd, ← hm]
    rw [hstep]
    by_cases hz : n - m = 0
    · rw [if_pos hz]
      have hmn : min n (left s).length = m := by omega
      rw [hmn]
      refine ⟨huo, by rw [← tl]; exact hu, te, tb, tr, by show 0 = _; omega, ?_⟩
      have : ¬ (left s).length < n := by omega
      rw [decide_eq_false this]; rfl
    · rw [if_neg hz]
      have hmm : m = t.w - t.r := by omega
      by_cases hte : t.eof = true
      · rw [if_pos hte]
        have hfl := te hte
        have hle : (left s).length = m := by rw [hleft, hfl, hmm]; simp
        have hu2 := left_adv tok m hml t.lb t.lr false
        refine ⟨ok_adv tok m hml t.lb t.lr false tok.lb0 tok.lb1 tok.lr0 tok.lr1, ?_, by simp, tb, tr, ?_, ?_⟩
        · show left ({ t with r := t.r + m, eof := false } : RS) = _
          rw [hu2, tl, hle]; congr 1; omega
        · show n - m = _; omega
        · have : (left s).length < n := by omega
          rw [decide_eq_true this]; rfl
      · rw [if_neg hte]
        have hpos : 0 < t.w - t.r := by
          rcases Nat.eq_zero_or_pos (t.w - t.r) with e | e
          · exact absurd (t0 e) hte
          · exact e
        have hul : (left ({ t with r := t.r + m } : RS)).length = (left s).length - m := by
          show (left ({ t with r := t.r + m, lb := t.lb, lr := t.lr, eof := t.eof } : RS)).length = _
          rw [hu, List.length_drop, tl]
        obtain ⟨i1, i2, i3, i4, i5, i6, i7⟩ := ih (n - m) { t with r := t.r + m } huo (by omega) (by rw [hul]; omega) te
        refine ⟨i1, ?_, i3, i4.trans tb, i5.trans tr, ?_, ?_⟩
        · rw [i2, hul]
          show List.drop _ (left ({ t with r := t.r + m, lb := t.lb, lr := t.lr, eof := t.eof } : RS)) = _
          rw [hu, tl, List.drop_drop]; congr 1; omega
        · rw [i6, hul]; omega
        · rw [i7, hul]
          congr 1
          by_cases hq : (left s).length < n
          · rw [decide_eq_true hq, decide_eq_true (by omega)]
          · rw [decide_eq_false hq, decide_eq_false (by omega)]

theorem agree_discard {r : SR} {s : RS} (h : Agree r s) (c : CallD) (hk : c.kind = 5) : (rdCall s c).2 = (r.call c).2.1 ∧ Agree (r.call c).1 (rdCall s c).1 := by
  have e0 : (5 : Int) ≠ 0 := by omega
  have e1 : (5 : Int) ≠ 1 := by omega
  have e2 : (5 : Int) ≠ 2 := by omega
  have e3 : (5 : Int) ≠ 3 := by omega
  have e4 : (5 : Int) ≠ 4 := by omega
  simp only [rdCall, SR.call, hk, if_neg e0, if_neg e1, if_neg e2, if_neg e3, if_neg e4, if_true]
  have same : Agree { r with doubt := r.doubt || r.bytes } s := by
    refine ⟨h.ok, h.left, h.eof, h.pos, fun e => ?_, fun e => ?_, fun e => ?_, fun e => ?_⟩ <;> simp only [Bool.or_eq_false_iff] at e
    · exact h.nb e.1
    · exact h.yb e.1
    · exact h.nr e.1
    · exact h.yr e.1
  by_cases hn : c.n < 0
  · simp only [discardM, if_pos hn]
    exact ⟨by first | trivial | rfl, same⟩
  · by_cases hz : c.n = 0
    · simp only [discardM, if_neg hn, if_pos hz]
      exact ⟨by first | trivial | rfl, same⟩
    · simp only [discardM, if_neg hn, if_neg hz]
      have hp : 0 < c.n.toNat := by omega
      generalize c.n.toNat = n at hp
      obtain ⟨i1, i2, i3, i4, i5, i6, i7⟩ := disc_spec (dmeas (noBack s)) n (noBack s) (noBack_ok h.ok) hp (by unfold dmeas; omega) h.eof
      rw [noBack_left, h.left] at i2 i6 i7
      refine ⟨?_, Agree.plain i1 (by rw [i2, rest_on]) i3 (by rw [rest_len]; have := h.pos; omega) (by rw [i4]; simp [noBack]) (by rw [i5]; simp [noBack])⟩
      rw [i6, i7, show n - (n - min n r.rest.length) = min n r.rest.length by omega]

/-! ### lines -/
theorem take_idx {l : List UInt8} {d : UInt8} (h : d ∈ l) : l.take (l.idxOf d + 1) = l.take (l.idxOf d) ++ [d] := by
  have hl := List.idxOf_lt_length_iff.2 h
  rw [List.take_add_one, List.getElem?_eq_getElem hl]
  simp
theorem lineL_app_mem {a b : List UInt8} {d : UInt8} (h : d ∈ a) : lineL (a ++ b) d = (a.take (a.idxOf d + 1), false) := by
  have hl := List.idxOf_lt_length_iff.2 h
  have : d ∈ a ++ b := List.mem_append_left _ h
  simp only [lineL, if_pos this]
  rw [List.idxOf_append, if_pos h, List.take_append_of_le_length (by omega)]
theorem lineL_app_not {a b : List UInt8} {d : UInt8} (h : ¬ d ∈ a) : lineL (a ++ b) d = (a ++ (lineL b d).1, (lineL b d).2) := by
  by_cases hb : d ∈ b
  · have : d ∈ a ++ b := List.mem_append_right _ hb
    simp only [lineL, if_pos this, if_pos hb]
    rw [List.idxOf_append, if_neg h, List.take_append, List.take_of_length_le (by omega)]
    congr 3
    omega
  · have : ¬ d ∈ a ++ b := by simp [h, hb]
    simp only [lineL, if_neg this, if_neg hb]
theorem lineL_len (l : List UInt8) (d : UInt8) : (lineL l d).1.length ≤ l.length := by
  unfold lineL
  split
  · simp; omega
  · exact Nat.le_refl _
theorem lineL_nil (d : UInt8) : lineL [] d = ([], true) := by simp [lineL]
theorem lastM_fields (line : List UInt8) (s : RS) : (lastM line s).r = s.r ∧ (lastM line s).w = s.w ∧ (lastM line s).buf = s.buf ∧ (lastM line s).src = s.src ∧ (lastM line s).eof = s.eof := by
  unfold lastM; split <;> exact ⟨rfl, rfl, rfl, rfl, rfl⟩
theorem lastM_left (line : List UInt8) (s : RS) : left (lastM line s) = left s := by
  obtain ⟨a, b, c, d, e⟩ := lastM_fields line s
  simp only [left, avail, a, b, c, d]
theorem lastM_ok (line : List UInt8) (s : RS) (h : s.Ok) : (lastM line s).Ok := by
  unfold lastM; split
  · exact h
  · rename_i b _
    exact ⟨h.rw, h.wn, h.lo, h.hi, by show -1 ≤ (b.toNat : Int); omega, byte_le b, by simp, by simp⟩
theorem lastM_nil (s : RS) : lastM [] s = s := rfl
theorem lastM_some {line : List UInt8} (h : line ≠ []) (s : RS) : (lastM line s).lb = ((line.getD (line.length - 1) 0).toNat : Int) ∧ (lastM line s).lr = -1 := by
  have : line.getLast? = some (line.getD (line.length - 1) 0) := by
    rw [List.getLast?_eq_getElem?]
    have : line.length - 1 < line.length := by have := List.length_pos_iff.2 h; omega
    simp [List.getD, List.getElem?_eq_getElem this]
  simp only [lastM, this]
  exact ⟨trivial, trivial⟩

/-- what one ReadSlice comes to -/
structure SliceDone (d : UInt8) (s : RS) (x : RS × List UInt8 × Nat) : Prop where
  ok : x.1.Ok
  left : left s = x.2.1 ++ left x.1
  eof : x.1.eof = true → x.1.src.flatten = []
  what : (x.2.2 = 0 ∧ d ∈ x.2.1 ∧ x.2.1 = x.2.1.take (x.2.1.idxOf d + 1)) ∨ (x.2.2 = 1 ∧ ¬ d ∈ x.2.1 ∧ Go.Proofs.YtancmlapnhccdaaDoor.left x.1 = []) ∨ (x.2.2 = 5 ∧ ¬ d ∈ x.2.1 ∧ 0 < x.2.1.length ∧ x.1.r = x.1.w ∧ x.1.eof = false)
  last : x.2.1 ≠ [] → x.1.lb = ((x.2.1.getD (x.2.1.length - 1) 0).toNat : Int) ∧ x.1.lr = -1 ∧ 0 < x.1.r
  none_ : x.2.1 = [] → x.1.lb = s.lb ∧ x.1.lr = s.lr ∧ x.1.w = x.1.r ∧ (s.r = s.w ∧ s.eof = false → x.1.r = 0)
theorem slice_done (d : UInt8) (s : RS) (h : s.Ok) (he : s.eof = true → s.src.flatten = []) : SliceDone d s (sliceM d s) := by
  obtain ⟨hf, hd⟩ := fillW_fills (cSlice_asks d) s h
  have hte := hf.eof he
  have hr0 : s.r = s.w ∧ s.eof = false → (fillW (cSlice d) s).r = 0 := by
    rintro ⟨e1, e2⟩
    have hav := (avail_nil h).2 e1
    have hlo := h.lo
    have hc : cSlice d s = true := by simp [cSlice, hav, e2]; omega
    rw [fillW_more (cSlice_asks d) s h hc]
    have hf1 := fillM_filled s h (by omega)
    obtain ⟨g, _⟩ := fillW_fills (cSlice_asks d) (fillM s) (fillM_ok s h)
    rcases g.r0 with e | e
    · rw [e]; exact hf1.r
    · exact e
  unfold sliceM
  generalize fillW (cSlice d) s = t at hf hd hte hr0
  have hal := avail_length t hf.ok
  have hrw := hf.ok.rw
  by_cases hm : d ∈ avail t
  · simp only [sliceE, if_pos hm]
    have hi := List.idxOf_lt_length_iff.2 hm
    have hlen : ((avail t).take ((avail t).idxOf d + 1)).length = (avail t).idxOf d + 1 := by rw [List.length_take]; omega
    have hne : (avail t).take ((avail t).idxOf d + 1) ≠ [] := by intro e; rw [e] at hlen; simp at hlen
    have hadv := left_adv hf.ok ((avail t).idxOf d + 1) (by omega) t.lb t.lr t.eof
    have hmem : d ∈ (avail t).take ((avail t).idxOf d + 1) := by rw [take_idx hm]; simp
    refine ⟨lastM_ok _ _ ?_, ?_, ?_, .inl ⟨rfl, hmem, ?_⟩, fun _ => ?_, fun e => absurd e hne⟩
    · rw [hlen]; exact ok_adv hf.ok _ (by omega) t.lb t.lr t.eof hf.ok.lb0 hf.ok.lb1 hf.ok.lr0 hf.ok.lr1
    · rw [lastM_left, hlen]
      show _ = _ ++ left ({ t with r := t.r + ((avail t).idxOf d + 1), lb := t.lb, lr := t.lr, eof := t.eof } : RS)
      rw [hadv, ← hf.left, left_split, List.drop_append_of_le_length (by omega), ← List.append_assoc, List.take_append_drop]
    · rw [(lastM_fields _ _).2.2.2.2, (lastM_fields _ _).2.2.2.1]; exact hte
    · have e := List.idxOf_append (l₁ := (avail t).take ((avail t).idxOf d + 1)) (l₂ := (avail t).drop ((avail t).idxOf d + 1)) (a := d)
      rw [List.take_append_drop, if_pos hmem] at e
      rw [← e, List.take_take, Nat.min_self]
    · obtain ⟨l1, l2⟩ := lastM_some hne { t with r := t.r + ((avail t).take ((avail t).idxOf d + 1)).length }
      refine ⟨l1, l2, ?_⟩
      rw [(lastM_fields _ _).1]; show 0 < t.r + _; omega
  · have hadv := left_adv hf.ok (t.w - t.r) (Nat.le_refl _) t.lb t.lr
    have hw : t.r + (t.w - t.r) = t.w := by omega
    have hdrop : (left t).drop (t.w - t.r) = t.src.flatten := by
      rw [left_split, List.drop_append_of_le_length (by omega), List.drop_of_length_le (by omega), List.nil_append]
    have hok2 : ∀ e, ({ t with r := t.w, eof := e } : RS).Ok := fun e => ⟨Nat.le_refl _, hf.ok.wn, hf.ok.lo, hf.ok.hi, hf.ok.lb0, hf.ok.lb1, hf.ok.lr0, hf.ok.lr1⟩
    have hleft2 : ∀ e, left ({ t with r := t.w, eof := e } : RS) = t.src.flatten := by
      intro e
      simp [left, avail]
    have hlast : avail t ≠ [] → 0 < t.w := by
      intro hne
      have := List.length_pos_iff.2 hne
      omega
    by_cases hte2 : t.eof = true
    · simp only [sliceE, if_neg hm, if_pos hte2]
      refine ⟨lastM_ok _ _ (hok2 false), ?_, ?_, .inr (.inl ⟨rfl, hm, ?_⟩), fun hne => ?_, fun e => ?_⟩
      · rw [lastM_left, hleft2, ← hf.left, left_split]
      · rw [(lastM_fields _ _).2.2.2.2]; intro e; simp at e
      · rw [lastM_left, hleft2]; exact hte hte2
      · obtain ⟨l1, l2⟩ := lastM_some hne { t with r := t.w, eof := false }
        refine ⟨l1, l2, ?_⟩
        rw [(lastM_fields _ _).1]; exact hlast hne
      · have e' : avail t = [] := e
        have := (avail_nil hf.ok).1 e'
        simp only [e', lastM_nil]
        exact ⟨hf.lb, hf.lr, trivial, fun q => by rw [← this]; exact hr0 q⟩
    · simp only [sliceE, if_neg hm, if_neg hte2]
      have hfull : ¬ (t.w - t.r < t.buf.length) := by
        intro hlt
        have : t.eof = false := by simpa using hte2
        simp [cSlice, hm, this, hlt] at hd
      have hlo := hf.ok.lo
      have hpos : 0 < (avail t).length := by omega
      refine ⟨lastM_ok _ _ (hok2 t.eof), ?_, ?_, .inr (.inr ⟨rfl, hm, hpos, by rw [(lastM_fields _ _).1, (lastM_fields _ _).2.1], by rw [(lastM_fields _ _).2.2.2.2]; simpa using hte2⟩), fun hne => ?_, fun e => ?_⟩
      · rw [lastM_left]
        show _ = _ ++ left ({ t with r := t.w, eof := t.eof } : RS)
        rw [hleft2, ← hf.left, left_split]
      · rw [(lastM_fields _ _).2.2.2.2, (lastM_fields _ _).2.2.2.1]; exact hte
      · obtain ⟨l1, l2⟩ := lastM_some hne { t with r := t.w }
        refine ⟨l1, l2, ?_⟩
        rw [(lastM_fields _ _).1]; exact hlast hne
      · have e' : avail t = [] := e
        rw [e'] at hpos; simp at hpos
end Go.Proofs.YtancmlapnhccdaaDoor

/- The library's reader answers what the reference's reader says: lines and runes; all calls. No program in sight. -/
namespace Go.Proofs.YtancmlapnhccdaaDoor
open Go.Lib

/-- what ReadSlice again and again comes to -/
theorem coll_spec (d : UInt8) : ∀ (k : Nat) (s : RS) (full : List (List UInt8)), s.Ok → (left s).length < k → (s.eof = true → s.src.flatten = []) →
    (collF d k s full).1.Ok ∧ ((collF d k s full).1.eof = true → (collF d k s full).1.src.flatten = []) ∧ (collF d k s full).2.1.flatten ++ (collF d k s full).2.2.1 = full.flatten ++ (lineL (left s) d).1 ∧
    (collF d k s full).2.2.2 = ended (lineL (left s) d).2 ∧ left (collF d k s full).1 = (left s).drop (lineL (left s) d).1.length ∧
    ((lineL (left s) d).1 ≠ [] → (collF d k s full).1.lb = (((lineL (left s) d).1.getD ((lineL (left s) d).1.length - 1) 0).toNat : Int) ∧ (collF d k s full).1.lr = -1 ∧ ((collF d k s full).1.r = 0 → (collF d k s full).1.w = 0)) ∧
    ((lineL (left s) d).1 = [] → (collF d k s full).1.lb = s.lb ∧ (collF d k s full).1.lr = s.lr ∧ (s.r = s.w ∧ s.eof = false → (collF d k s full).1.r = 0 ∧ (collF d k s full).1.w = 0)) := by
  intro k
  induction k with
  | zero => intro s full _ h; omega
  | succ k ih =>
    intro s full hok hk he
    have hsd := slice_done d s hok he
    have hst : collF d (k + 1) s full = if (sliceM d s).2.2 = 5 then collF d k (sliceM d s).1 (full ++ [(sliceM d s).2.1]) else ((sliceM d s).1, full, (sliceM d s).2.1, (sliceM d s).2.2) := rfl
    rw [hst]
    generalize sliceM d s = x at hsd
    obtain ⟨t, line, err⟩ := x
    obtain ⟨tok, tl, te, what, last, none_⟩ := hsd
    simp only at tok tl te what last none_ ⊢
    rcases what with ⟨rfl, hm, hq⟩ | ⟨rfl, hm, hz⟩ | ⟨rfl, hm, hp, hrw, hef⟩
    · have hl : lineL (left s) d = (line, false) := by rw [tl, lineL_app_mem hm, ← hq]
      rw [if_neg (by omega), hl]
      refine ⟨tok, te, rfl, rfl, by rw [tl]; simp, fun hne => ?_, fun e => by have e' : line = [] := e; rw [e'] at hm; simp at hm⟩
      obtain ⟨a, b, c⟩ := last hne
      exact ⟨a, b, fun e => by simp only at e; omega⟩
    · have hl : lineL (left s) d = (line, true) := by rw [tl, hz, List.append_nil]; simp [lineL, hm]
      rw [if_neg (by omega), hl]
      refine ⟨tok, te, rfl, rfl, by rw [tl]; simp, fun hne => ?_, fun e => ?_⟩
      · obtain ⟨a, b, c⟩ := last hne
        exact ⟨a, b, fun e => by simp only at e; omega⟩
      · obtain ⟨a, b, c, f⟩ := none_ e
        exact ⟨a, b, fun q => ⟨f q, by simp only; rw [c]; exact f q⟩⟩
    · rw [if_pos rfl]
      have hl : lineL (left s) d = (line ++ (lineL (left t) d).1, (lineL (left t) d).2) := by rw [tl, lineL_app_not hm]
      have hlen : (left t).length < k := by have := congrArg List.length tl; rw [List.length_append] at this; omega
      obtain ⟨i1, i2, i3, i4, i5, i6, i7⟩ := ih t (full ++ [line]) tok hlen te
      have hne : line ≠ [] := List.length_pos_iff.1 hp
      rw [hl]
      refine ⟨i1, i2, ?_, i4, ?_, fun _ => ?_, fun e => by simp at e; exact absurd e.1 hne⟩
      · rw [i3]; simp
      · rw [i5, tl, List.length_append, List.drop_append]
        simp
      · by_cases hz : (lineL (left t) d).1 = []
        · obtain ⟨a, b, c⟩ := i7 hz
          obtain ⟨a2, b2, _⟩ := last hne
          rw [hz, List.append_nil]
          exact ⟨a.trans a2, b.trans b2, fun _ => (c ⟨hrw, hef⟩).2⟩
        · obtain ⟨a, b, c⟩ := i6 hz
          refine ⟨?_, b, c⟩
          rw [a]
          have := List.length_pos_iff.2 hz
          simp only [List.getD, List.length_append]
          rw [List.getElem?_append_right (by omega)]
          congr 4
          omega

theorem agree_line {r : SR} {s : RS} (h : Agree r s) (d : UInt8) : (lineM d s).2.1 = (lineL r.rest d).1 ∧ (lineM d s).2.2 = ended (lineL r.rest d).2 ∧ Agree (r.read (lineL r.rest d).1.length 0) (lineM d s).1 := by
  obtain ⟨i1, i2, i3, i4, i5, i6, i7⟩ := coll_spec d (dmeas s) s [] h.ok (by unfold dmeas; omega) h.eof
  rw [h.left] at i3 i4 i5 i6 i7
  refine ⟨i3, i4, ?_⟩
  have hll := lineL_len r.rest d
  rw [rest_len] at hll
  by_cases hz : (lineL r.rest d).1 = []
  · rw [hz]
    refine Agree.none_ i1 ?_ i2 h.pos
    rw [hz] at i5
    exact i5
  · obtain ⟨a, b, c⟩ := i6 hz
    refine Agree.some_ (List.length_pos_iff.2 hz) i1 i5 i2 (by have := h.pos; omega) ?_ ?_ c
    · have hg : (lineL r.rest d).1.getD ((lineL r.rest d).1.length - 1) 0 = r.rest.getD ((lineL r.rest d).1.length - 1) 0 := by
        unfold lineL
        split
        · rename_i hm
          have hi := List.idxOf_lt_length_iff.2 hm
          simp only [List.getD, List.length_take, List.getElem?_take]
          rw [if_pos (by omega)]
        · rfl
      rw [← hg]
      exact a
    · show (collF d (dmeas s) s []).1.lr < 0
      rw [b]; omega

/-! ### runes -/
theorem dec_ge {l : List UInt8} : 1 ≤ (decM l).2 := by
  unfold decM decodeN
  repeat' split
  all_goals simp
theorem dec_le {l : List UInt8} (h : l ≠ []) : (decM l).2 ≤ l.length ∧ (decM l).2 ≤ 4 := by
  have hp := List.length_pos_iff.2 h
  unfold decM decodeN
  repeat' split
  all_goals simp
  all_goals omega
theorem decodeN_wide (n m b0 b1 b2 b3 : Nat) (hn : 4 ≤ n) (hm : 4 ≤ m) : decodeN n b0 b1 b2 b3 = decodeN m b0 b1 b2 b3 := by
  have a1 : (1 < n) = True := by simp; omega
  have a2 : (2 < n) = True := by simp; omega
  have a3 : (3 < n) = True := by simp; omega
  have c1 : (1 < m) = True := by simp; omega
  have c2 : (2 < m) = True := by simp; omega
  have c3 : (3 < m) = True := by simp; omega
  simp only [decodeN, a1, a2, a3, c1, c2, c3]
theorem getD_app (a b : List UInt8) (i : Nat) (h : i < a.length) : (a ++ b).getD i 0 = a.getD i 0 := by
  simp only [List.getD]; rw [List.getElem?_append_left h]
theorem dec_wide (a b : List UInt8) (h : 4 ≤ a.length) : decM (a ++ b) = decM a := by
  unfold decM
  rw [getD_app a b 0 (by omega), getD_app a b 1 (by omega), getD_app a b 2 (by omega), getD_app a b 3 (by omega)]
  exact decodeN_wide _ _ _ _ _ _ (by simp; omega) h
theorem u8lt (b : UInt8) : b.toNat < 256 := b.toNat_lt
theorem firstT_cases (b : Nat) : firstT b < 240 ∨ firstT b = 240 ∨ firstT b = 241 := by
  unfold firstT
  repeat' split
  all_goals omega
theorem firstT_mod (b : Nat) (h : firstT b < 240) : 2 ≤ firstT b % 8 ∧ firstT b % 8 ≤ 4 := by
  unfold firstT at h ⊢
  repeat' split at h
  all_goals first | omega | (repeat' split) <;> omega
/-- where bytes begin with a whole rune, or with what is no rune, what follows does not matter -/
theorem dec_full (a b : List UInt8) (h : fullM a = true) : decM (a ++ b) = decM a := by
  by_cases h4 : 4 ≤ a.length
  · exact dec_wide a b h4
  have h0 : a.length ≠ 0 := by intro e; simp [fullM, e] at h
  simp only [fullM, if_neg h0] at h
  have e0 := getD_app a b 0 (by omega)
  unfold decM
  rw [e0]
  rcases firstT_cases (a.getD 0 0).toNat with hx | hx | hx
  · have hm := firstT_mod _ hx
    rw [← slow_eq _ _ _ _ _ (by simp; omega) (u8lt _) (u8lt _) (u8lt _) hx, ← slow_eq _ _ _ _ _ (by omega) (u8lt _) (u8lt _) (u8lt _) hx]
    generalize firstT (a.getD 0 0).toNat = x at h hm
    generalize accLo (x / 16) = lo at h
    generalize accHi (x / 16) = hi at h
    generalize x % 8 = sz at h hm
    by_cases c1 : sz ≤ a.length
    · have e1 := getD_app a b 1 (by omega)
      rw [e1]
      simp only [slowN]
      rw [if_neg (show ¬ (a ++ b).length < sz by simp; omega), if_neg (show ¬ a.length < sz by omega)]
      by_cases q : (a.getD 1 0).toNat < lo ∨ hi < (a.getD 1 0).toNat
      · rw [if_pos q, if_pos q]
      · rw [if_neg q, if_neg q]
        by_cases q2 : sz ≤ 2
        · rw [if_pos q2, if_pos q2]
        · have e2 := getD_app a b 2 (by omega)
          rw [if_neg q2, if_neg q2, e2]
          by_cases q3 : sz ≤ 3
          · rw [if_pos q3, if_pos q3]
          · omega
    · rw [if_neg c1] at h
      have s1 : slowN a.length (a.getD 0 0).toNat (a.getD 1 0).toNat (a.getD 2 0).toNat (a.getD 3 0).toNat sz lo hi = (65533, 1) := by
        simp only [slowN]; rw [if_pos (by omega)]
      rw [s1]
      by_cases q1 : 1 < a.length ∧ ((a.getD 1 0).toNat < lo ∨ hi < (a.getD 1 0).toNat)
      · have e1 := getD_app a b 1 (by omega)
        rw [e1]
        simp only [slowN]
        by_cases q : (a ++ b).length < sz
        · rw [if_pos q]
        · rw [if_neg q, if_pos q1.2]
      · rw [if_neg q1] at h
        by_cases q2 : 2 < a.length ∧ ((a.getD 2 0).toNat < 128 ∨ 191 < (a.getD 2 0).toNat)
        · have e1 := getD_app a b 1 (by omega)
          have e2 := getD_app a b 2 (by omega)
          rw [e1, e2]
          simp only [slowN]
          by_cases q : (a ++ b).length < sz
          · rw [if_pos q]
          · rw [if_neg q]
            by_cases q3 : (a.getD 1 0).toNat < lo ∨ hi < (a.getD 1 0).toNat
            · rw [if_pos q3]
            · rw [if_neg q3, if_neg (by omega), if_pos q2.2]
        · rw [if_neg q2] at h; cases h
  · rw [ascii_eq _ _ _ _ _ hx, ascii_eq _ _ _ _ _ hx]
  · rw [bad_eq _ _ _ _ _ (u8lt _) hx, bad_eq _ _ _ _ _ (u8lt _) hx]

theorem agree_rune {r : SR} {s : RS} (h : Agree r s) (c : CallD) (hk : c.kind = 1) : (rdCall s c).2 = (r.call c).2.1 ∧ Agree (r.call c).1 (rdCall s c).1 := by
  have e0 : (1 : Int) ≠ 0 := by omega
  obtain ⟨hl, he, hok, hd, hlb, hlr, hln⟩ := fill_agree h cRune_asks s h.ok rfl rfl rfl
  have hrd : readRuneM s = readRuneE (fillW cRune s) := rfl
  simp only [rdCall, SR.call, hk, if_neg e0, if_true, hrd]
  generalize fillW cRune s = t at hl he hok hd hlb hlr hln
  have hal := avail_length t hok
  have hlo := hok.lo
  have hdec : decM (avail t) = decM r.rest := by
    rw [← hl, left_split]
    by_cases c1 : t.w < t.r + 4
    · by_cases c2 : fullM (avail t) = true
      · exact (dec_full _ _ c2).symm
      · have c3 : t.w - t.r < t.buf.length := by omega
        have : t.eof = true := by simpa [cRune, c1, c2, c3] using hd
        rw [he this, List.append_nil]
    · exact (dec_wide _ _ (by omega)).symm
  by_cases hrw : t.r = t.w
  · have hav := (avail_nil hok).2 hrw
    have heof : t.eof = true := by
      have c1 : t.w < t.r + 4 := by omega
      have c2 : fullM (avail t) = false := by rw [hav]; rfl
      have c3 : t.w - t.r < t.buf.length := by omega
      simpa [cRune, c1, c2, c3] using hd
    have hz : r.rest = [] := by rw [← hl, left_of_end (he heof), hav]
    simp only [readRuneE, if_pos hrw, if_pos hz, heof, if_true]
    refine ⟨rfl, Agree.none_ ⟨hok.rw, hok.wn, hok.lo, hok.hi, hok.lb0, hok.lb1, by simp, by simp⟩ ?_ (by simp) h.pos⟩
    rw [← hl]; rfl
  · have hlt : t.r < t.w := by have := hok.rw; omega
    have hne : avail t ≠ [] := fun e => hrw ((avail_nil hok).1 e)
    obtain ⟨q, hq⟩ := avail_head hok hlt
    have hz : ¬ r.rest = [] := by rw [← hl, left_split, hq]; simp
    obtain ⟨d1, d2⟩ := dec_le hne
    have d0 := dec_ge (l := avail t)
    simp only [readRuneE, if_neg hrw, if_neg hz]
    rw [hdec] at d0 d1 d2 ⊢
    generalize hn : (decM r.rest).2 = n at d0 d1 d2
    refine ⟨rfl, ?_⟩
    have hadv := left_adv hok n (by omega) ((byteAt t (t.r + n - 1)).toNat : Int) (n : Int) t.eof
    have hokA := ok_adv hok n (by omega) ((byteAt t (t.r + n - 1)).toNat : Int) (n : Int) t.eof (by omega) (byte_le _) (by omega) (by omega)
    have hpn : r.pos + n ≤ r.data.length := by
      have e := rest_len (r := r)
      have hp := h.pos
      rw [← hl, left_split, List.length_append] at e
      omega
    have htk : (avail t).take n = r.rest.take n := by rw [← hl, left_split, List.take_append_of_le_length (by omega)]
    have hbt : byteAt t (t.r + n - 1) = r.data.getD (r.pos + n - 1) 0 := by
      have e1 : (avail t).getD (n - 1) 0 = byteAt t (t.r + n - 1) := by
        simp only [avail, byteAt, List.getD, List.getElem?_take, List.getElem?_drop]
        rw [if_pos (by omega), show t.r + (n - 1) = t.r + n - 1 by omega]
      have e2 : r.rest.getD (n - 1) 0 = r.data.getD (r.pos + n - 1) 0 := by
        simp only [SR.rest, List.getD, List.getElem?_drop]
        rw [show r.pos + (n - 1) = r.pos + n - 1 by omega]
      rw [← e1, ← e2, ← hl, left_split, getD_app _ _ _ (by omega)]
    refine ⟨hokA, by rw [hadv, hl, rest_read], he, by simp [SR.read]; exact hpn, fun _ e => by simp [SR.read] at e; omega, fun _ _ => ⟨by simp [SR.read]; omega, ?_, fun e => by simp at e; omega⟩, fun _ e => by simp [SR.read] at e; omega, fun _ _ => ⟨rfl, by simp [SR.read], by simp [SR.read], ?_, by simp [SR.read]; omega⟩⟩
    · simp only [SR.read]; rw [hbt]
    · simp only [SR.read]
      rw [Nat.add_sub_cancel, Nat.add_sub_cancel]
      have : (t.buf.drop t.r).take n = (avail t).take n := by
        simp only [avail]; rw [List.take_take, Nat.min_eq_left (by omega)]
      rw [this, htk]; rfl

/-- as far as the reference tells an answer, the library gives it -/
theorem agree {r : SR} {s : RS} (h : Agree r s) (c : CallD) (ht : (r.call c).2.2 = true) : (rdCall s c).2 = (r.call c).2.1 ∧ Agree (r.call c).1 (rdCall s c).1 := by
  by_cases k0 : c.kind = 0
  · exact agree_byte h c k0
  by_cases k1 : c.kind = 1
  · exact agree_rune h c k1
  by_cases k2 : c.kind = 2
  · exact agree_unbyte h c k2 ht
  by_cases k3 : c.kind = 3
  · exact agree_unrune h c k3 ht
  by_cases k4 : c.kind = 4
  · exact agree_peek h c k4 ht
  by_cases k5 : c.kind = 5
  · exact agree_discard h c k5
  obtain ⟨a, b, e⟩ := agree_line h c.delim
  simp only [rdCall, SR.call, if_neg k0, if_neg k1, if_neg k2, if_neg k3, if_neg k4, if_neg k5, a, b]
  exact ⟨trivial, e⟩
end Go.Proofs.YtancmlapnhccdaaDoor

/- The reader's machine: its errors are the five, and an error is pending only at the end. No program in sight. -/
namespace Go.Proofs.YtancmlapnhccdaaDoor

/-- an error is pending only at the end -/
def EofOk (s : RS) : Prop := s.eof = true → s.src.flatten = []

theorem readByte_eof {s : RS} (h : s.Ok) (he : EofOk s) : EofOk (readByteM s).1 := by
  have hok1 : ({ s with lr := -1 } : RS).Ok := ⟨h.rw, h.wn, h.lo, h.hi, h.lb0, h.lb1, by simp, by simp⟩
  obtain ⟨hf, _⟩ := fillW_fills cByte_asks { s with lr := -1 } hok1
  have := hf.eof he
  unfold readByteM readByteE
  split
  · intro e; simp at e
  · exact this
theorem readByte_err (s : RS) : (readByteM s).2.2 ≤ 5 := by
  unfold readByteM readByteE
  split
  · simp only; split <;> omega
  · simp
theorem dec_rune (l : List UInt8) : (decM l).1 ≤ 1114111 := by
  unfold decM Go.Lib.decodeN
  repeat' split
  all_goals (simp only; omega)
theorem readRune_eof {s : RS} (h : s.Ok) (he : EofOk s) : EofOk (readRuneM s).1 := by
  obtain ⟨hf, _⟩ := fillW_fills cRune_asks s h
  have := hf.eof he
  unfold readRuneM readRuneE
  split
  · intro e; simp at e
  · exact this
theorem readRune_err {s : RS} (h : s.Ok) : (readRuneM s).2.2.2 ≤ 5 ∧ (readRuneM s).2.1 ≤ 1114111 ∧ (readRuneM s).2.2.1 ≤ 4 := by
  obtain ⟨hf, _⟩ := fillW_fills cRune_asks s h
  unfold readRuneM readRuneE
  split
  · refine ⟨?_, by simp, by simp⟩
    simp only; split <;> omega
  · rename_i hne
    have hne2 : avail (fillW cRune s) ≠ [] := fun e => hne ((avail_nil hf.ok).1 e)
    exact ⟨by simp, dec_rune _, (dec_le hne2).2⟩
theorem unreadByte_eof {s : RS} (he : EofOk s) : EofOk (unreadByteM s).1 := by
  unfold unreadByteM
  repeat' split
  all_goals exact he
theorem unreadByte_err (s : RS) : (unreadByteM s).2 ≤ 5 := by
  unfold unreadByteM
  repeat' split
  all_goals simp
theorem unreadRune_eof {s : RS} (he : EofOk s) : EofOk (unreadRuneM s).1 := by
  unfold unreadRuneM
  split
  all_goals exact he
theorem unreadRune_err (s : RS) : (unreadRuneM s).2 ≤ 5 := by
  unfold unreadRuneM
  split
  all_goals simp
theorem peek_eof {s : RS} (n : Int) (h : s.Ok) (he : EofOk s) : EofOk (peekM n s).1 := by
  unfold peekM
  split
  · exact he
  · obtain ⟨hf, _⟩ := fillW_fills (cPeek_asks n.toNat) (noBack s) (noBack_ok h)
    have := hf.eof he
    unfold peekE
    repeat' split
    all_goals first | exact this | (intro e; simp at e)
theorem peek_err (s : RS) (n : Int) : (peekM n s).2.2 ≤ 5 := by
  unfold peekM
  split
  · simp
  · unfold peekE
    repeat' split
    all_goals simp
    all_goals first | omega | (split <;> omega)
theorem peek_len {s : RS} (n : Int) (h : s.Ok) : (peekM n s).2.1.length ≤ 255 := by
  unfold peekM
  split
  · simp
  · obtain ⟨hf, _⟩ := fillW_fills (cPeek_asks n.toNat) (noBack s) (noBack_ok h)
    have h1 := avail_length _ hf.ok
    have h2 := hf.ok.wn
    have h3 := hf.ok.hi
    unfold peekE
    repeat' split
    all_goals first | (simp only [List.length_take]; omega) | (simp only; omega)
theorem discard_eof {s : RS} (n : Int) (h : s.Ok) (he : EofOk s) : EofOk (discardM n s).1 := by
  unfold discardM
  split
  · exact he
  · split
    · exact he
    · rename_i h1 h2
      exact (disc_spec (dmeas (noBack s)) n.toNat (noBack s) (noBack_ok h) (by omega) (by unfold dmeas; omega) he).2.2.1
theorem discard_err {s : RS} (n : Int) (h : s.Ok) (he : EofOk s) : (discardM n s).2.2 ≤ 5 := by
  unfold discardM
  split
  · simp
  · split
    · simp
    · rename_i h1 h2
      have := (disc_spec (dmeas (noBack s)) n.toNat (noBack s) (noBack_ok h) (by omega) (by unfold dmeas; omega) he).2.2.2.2.2.2
      simp only
      rw [this]
      unfold ended
      split <;> omega
theorem line_eof {s : RS} (d : UInt8) (h : s.Ok) (he : EofOk s) : EofOk (lineM d s).1 := (coll_spec d (dmeas s) s [] h (by unfold dmeas; omega) he).2.1
theorem line_err {s : RS} (d : UInt8) (h : s.Ok) (he : EofOk s) : (lineM d s).2.2 ≤ 5 := by
  have := (coll_spec d (dmeas s) s [] h (by unfold dmeas; omega) he).2.2.2.1
  show (collF d (dmeas s) s []).2.2.2 ≤ 5
  rw [this]
  unfold ended
  split <;> omega
theorem line_len {s : RS} (d : UInt8) (h : s.Ok) (he : EofOk s) : (lineM d s).2.1.length ≤ (left s).length := by
  have := (coll_spec d (dmeas s) s [] h (by unfold dmeas; omega) he).2.2.1
  have e : (lineM d s).2.1 = (lineL (left s) d).1 := by
    show (collF d (dmeas s) s []).2.1.flatten ++ (collF d (dmeas s) s []).2.2.1 = _
    rw [this]; simp
  rw [e]
  exact lineL_len _ _
end Go.Proofs.YtancmlapnhccdaaDoor
