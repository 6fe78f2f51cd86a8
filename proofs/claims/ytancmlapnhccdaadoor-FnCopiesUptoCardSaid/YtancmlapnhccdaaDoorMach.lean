/- A reader over pieces as plain lists: the source that gives pieces one after the other. No program in sight. -/
import Derived.Laws.CopyOwn
namespace Go.Proofs.YtancmlapnhccdaaDoor

/-- pieces without the empty ones in front -/
def dropE : List (List UInt8) → List (List UInt8)
  | [] => []
  | [] :: r => dropE r
  | (b :: q) :: r => (b :: q) :: r

theorem dropE_head {ps : List (List UInt8)} {q : List UInt8} {r : List (List UInt8)} (h : dropE ps = q :: r) : q ≠ [] := by
  induction ps with
  | nil => simp [dropE] at h
  | cons p ps ih =>
    cases p with
    | nil => exact ih (by simpa [dropE] using h)
    | cons b p =>
      simp only [dropE, List.cons.injEq] at h
      rw [← h.1]; simp
theorem dropE_flatten (ps : List (List UInt8)) : (dropE ps).flatten = ps.flatten := by
  induction ps with
  | nil => rfl
  | cons p ps ih =>
    cases p with
    | nil => simpa [dropE] using ih
    | cons b p => simp [dropE]
theorem dropE_nil_iff (ps : List (List UInt8)) : dropE ps = [] ↔ ps.flatten = [] := by
  constructor
  · intro h; rw [← dropE_flatten, h]; rfl
  · intro h
    rcases hd : dropE ps with _ | ⟨q, r⟩
    · rfl
    · exfalso
      have := dropE_head hd
      rw [← dropE_flatten, hd] at h
      simp at h
      exact this h.1

/-- what a bufio.Reader over a source holds -/
structure RS where
  buf : List UInt8
  r : Nat
  w : Nat
  eof : Bool
  lb : Int
  lr : Int
  src : List (List UInt8)

structure RS.Ok (s : RS) : Prop where
  rw : s.r ≤ s.w
  wn : s.w ≤ s.buf.length
  lo : 16 ≤ s.buf.length
  hi : s.buf.length ≤ 255
  lb0 : -1 ≤ s.lb
  lb1 : s.lb ≤ 255
  lr0 : -1 ≤ s.lr
  lr1 : s.lr ≤ 4

/-- the data in the buffer go to its front -/
def slide (s : RS) : RS :=
  if 0 < s.r then { s with buf := splice s.buf 0 ((s.buf.drop s.r).take (s.w - s.r)), r := 0, w := s.w - s.r } else s

theorem slide_src (s : RS) : (slide s).src = s.src := by unfold slide; split <;> rfl
theorem slide_r (s : RS) : (slide s).r = 0 := by
  unfold slide; split
  · rfl
  · omega
theorem slide_w (s : RS) : (slide s).w = s.w - s.r := by
  unfold slide; split
  · rfl
  · omega
theorem slide_eof (s : RS) : (slide s).eof = s.eof := by unfold slide; split <;> rfl
theorem slide_lb (s : RS) : (slide s).lb = s.lb := by unfold slide; split <;> rfl
theorem slide_lr (s : RS) : (slide s).lr = s.lr := by unfold slide; split <;> rfl
theorem slide_len (s : RS) (h : s.Ok) : (slide s).buf.length = s.buf.length := by
  have := h.rw; have := h.wn
  unfold slide; split
  · exact length_splice _ _ _ (by simp; omega)
  · rfl
theorem slide_ok (s : RS) (h : s.Ok) : (slide s).Ok where
  rw := by rw [slide_r]; omega
  wn := by rw [slide_len s h, slide_w]; have := h.wn; omega
  lo := by rw [slide_len s h]; exact h.lo
  hi := by rw [slide_len s h]; exact h.hi
  lb0 := by rw [slide_lb]; exact h.lb0
  lb1 := by rw [slide_lb]; exact h.lb1
  lr0 := by rw [slide_lr]; exact h.lr0
  lr1 := by rw [slide_lr]; exact h.lr1

/-- one reading of the source into the buffer -/
def fillT (t : RS) : RS :=
  match dropE t.src with
  | [] => { t with eof := true, src := [] }
  | q :: rest => { t with buf := splice t.buf t.w (q.take (t.buf.length - t.w)), w := t.w + Nat.min q.length (t.buf.length - t.w), src := q.drop (t.buf.length - t.w) :: rest }
def fillM (s : RS) : RS := fillT (slide s)

theorem fillT_ok (t : RS) (h : t.Ok) : (fillT t).Ok := by
  have := h.rw; have := h.wn
  unfold fillT; split
  · exact ⟨h.rw, h.wn, h.lo, h.hi, h.lb0, h.lb1, h.lr0, h.lr1⟩
  · rename_i q rest _
    have hl : (splice t.buf t.w (q.take (t.buf.length - t.w))).length = t.buf.length := length_splice _ _ _ (by simp; omega)
    have hm : Nat.min q.length (t.buf.length - t.w) ≤ t.buf.length - t.w := Nat.min_le_right _ _
    refine ⟨?_, ?_, ?_, ?_, h.lb0, h.lb1, h.lr0, h.lr1⟩
    · show t.r ≤ t.w + Nat.min q.length (t.buf.length - t.w); omega
    · show t.w + Nat.min q.length (t.buf.length - t.w) ≤ (splice t.buf t.w (q.take (t.buf.length - t.w))).length; rw [hl]; omega
    · show 16 ≤ (splice t.buf t.w (q.take (t.buf.length - t.w))).length; rw [hl]; exact h.lo
    · show (splice t.buf t.w (q.take (t.buf.length - t.w))).length ≤ 255; rw [hl]; exact h.hi
theorem fillM_ok (s : RS) (h : s.Ok) : (fillM s).Ok := fillT_ok _ (slide_ok s h)
/-- what lies in the buffer, unread -/
def avail (s : RS) : List UInt8 := (s.buf.drop s.r).take (s.w - s.r)
theorem avail_length (s : RS) (h : s.Ok) : (avail s).length = s.w - s.r := by have := h.rw; have := h.wn; simp [avail]; omega
/-- all that can still be read -/
def left (s : RS) : List UInt8 := avail s ++ s.src.flatten

theorem take_splice_end (l c : List UInt8) (k : Nat) (h : k + c.length ≤ l.length) : (splice l k c).take (k + c.length) = l.take k ++ c := by
  simp only [splice]
  rw [← List.append_assoc, List.take_append_of_le_length (by simp; omega), List.take_of_length_le (by simp; omega)]

theorem slide_avail (s : RS) (h : s.Ok) : avail (slide s) = avail s := by
  have hr := h.rw; have hw := h.wn
  unfold avail
  rw [slide_r, slide_w, List.drop_zero, Nat.sub_zero]
  by_cases h0 : 0 < s.r
  · have hb : (slide s).buf = splice s.buf 0 ((s.buf.drop s.r).take (s.w - s.r)) := by unfold slide; rw [if_pos h0]
    rw [hb]
    have hl : ((s.buf.drop s.r).take (s.w - s.r)).length = s.w - s.r := by simp; omega
    have := take_splice_end s.buf ((s.buf.drop s.r).take (s.w - s.r)) 0 (by omega)
    rw [Nat.zero_add, hl] at this
    rw [this]; simp
  · have : slide s = s := by unfold slide; rw [if_neg h0]
    rw [this]
    have h00 : s.r = 0 := by omega
    simp [h00]

theorem fillT_avail (t : RS) (h : t.Ok) (hr : t.r = 0) : left (fillT t) = left t ∧ (fillT t).r = 0 ∧ (fillT t).buf.length = t.buf.length ∧ (fillT t).lb = t.lb ∧ (fillT t).lr = t.lr ∧
    ((t.src.flatten = [] ∧ (fillT t).eof = true ∧ (fillT t).src = [] ∧ avail (fillT t) = avail t) ∨ (t.src.flatten ≠ [] ∧ (fillT t).eof = t.eof ∧ (t.w < t.buf.length → t.w < (fillT t).w))) := by
  have hw := h.wn
  rcases hd : dropE t.src with _ | ⟨q, rest⟩
  · have hf : fillT t = { t with eof := true, src := [] } := by unfold fillT; rw [hd]
    have he := (dropE_nil_iff _).1 hd
    refine ⟨?_, ?_, ?_, ?_, ?_, .inl ⟨he, ?_, ?_, ?_⟩⟩ <;> rw [hf]
    · simp only [left, avail, he]; simp
    · exact hr
    · rfl
  · have hq := dropE_head hd
    have hf : fillT t = { t with buf := splice t.buf t.w (q.take (t.buf.length - t.w)), w := t.w + Nat.min q.length (t.buf.length - t.w), src := q.drop (t.buf.length - t.w) :: rest } := by unfold fillT; rw [hd]
    have hl : (q.take (t.buf.length - t.w)).length = Nat.min q.length (t.buf.length - t.w) := by rw [List.length_take]; exact Nat.min_comm _ _
    have hle : Nat.min q.length (t.buf.length - t.w) ≤ t.buf.length - t.w := Nat.min_le_right _ _
    have hfl : t.src.flatten = q ++ rest.flatten := by rw [← dropE_flatten, hd]; rfl
    refine ⟨?_, ?_, ?_, ?_, ?_, .inr ⟨?_, ?_, ?_⟩⟩
    · rw [hf]
      simp only [left, avail, hr, List.drop_zero, Nat.sub_zero]
      have := take_splice_end t.buf (q.take (t.buf.length - t.w)) t.w (by omega)
      rw [hl] at this
      rw [this, hfl, List.flatten_cons, List.append_assoc, ← List.append_assoc (q.take _), List.take_append_drop]
    · rw [hf]; exact hr
    · rw [hf]; exact length_splice _ _ _ (by omega)
    · rw [hf]
    · rw [hf]
    · rw [hfl]; simp [hq]
    · rw [hf]
    · intro hlt
      rw [hf]
      have : 0 < q.length := List.length_pos_iff.2 hq
      show t.w < t.w + min q.length (t.buf.length - t.w)
      omega

/-- what fill does to what can be read -/
structure Filled (s t : RS) : Prop where
  left : left t = left s
  r : t.r = 0
  len : t.buf.length = s.buf.length
  lb : t.lb = s.lb
  lr : t.lr = s.lr
  more : (s.src.flatten = [] ∧ t.eof = true ∧ t.src = [] ∧ avail t = avail s) ∨ (s.src.flatten ≠ [] ∧ t.eof = s.eof ∧ (avail s).length < (avail t).length)

theorem fillM_filled (s : RS) (h : s.Ok) (hnf : s.w - s.r < s.buf.length) : Filled s (fillM s) := by
  have hs := slide_ok s h
  obtain ⟨h1, h2, h3, h4, h5, h6⟩ := fillT_avail (slide s) hs (slide_r s)
  have hf := fillM_ok s h
  refine ⟨?_, h2, ?_, ?_, ?_, ?_⟩
  · show Go.Proofs.YtancmlapnhccdaaDoor.left (fillT (slide s)) = _
    rw [h1]; unfold Go.Proofs.YtancmlapnhccdaaDoor.left; rw [slide_avail s h, slide_src]
  · show (fillT (slide s)).buf.length = _; rw [h3, slide_len s h]
  · show (fillT (slide s)).lb = _; rw [h4, slide_lb]
  · show (fillT (slide s)).lr = _; rw [h5, slide_lr]
  · rw [slide_src] at h6
    rcases h6 with ⟨a, b, c, d⟩ | ⟨a, b, c⟩
    · exact .inl ⟨a, b, c, by show avail (fillT (slide s)) = _; rw [d, slide_avail s h]⟩
    · refine .inr ⟨a, by show (fillT (slide s)).eof = _; rw [b, slide_eof], ?_⟩
      rw [avail_length s h, avail_length _ hf]
      have hc := c (by rw [slide_w, slide_len s h]; exact hnf)
      rw [slide_w] at hc
      show _ < (fillT (slide s)).w - (fillT (slide s)).r
      rw [h2]; exact hc

end Go.Proofs.YtancmlapnhccdaaDoor
