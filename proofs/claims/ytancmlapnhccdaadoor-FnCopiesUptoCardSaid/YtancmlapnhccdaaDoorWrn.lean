/- Joined by merge.py out of: Lay7, Wru. -/
import Derived.Test.YtancmlapnhccdaaDoorEnv
import Derived.Shelf.Spec.DecodeRune
import Derived.Shelf.Spec.EncodeRune
import Derived.Test.YtancmlapnhccdaaDoorWbs
import Derived.Lib.RuneBytes
import Derived.Laws.Runes

/- The shelf's contracts for package unicode/utf8, laid at this seat's own numbers (printed by gen_lays.py). -/
namespace Go.Proofs.YtancmlapnhccdaaDoor
open Go.Shelf

def ren7 : Ren where
  f n := match n with
    | 30 => 72
    | 47 => 78
    | 32 => 66
    | 49 => 73
    | _ => 0
  t n := match n with
    | 0 => 0
    | 3 => 3
    | 4 => 4
    | 5 => 5
    | 21 => 21
    | 25 => 143
    | 27 => 134
    | 30 => 25
    | 33 => 126
    | 66 => 139
    | 68 => 141
    | 69 => 142
    | _ => 0
  g n := match n with
    | 2 => 9
    | 3 => 10
    | _ => 0

theorem lays30 : Lays7.n30 Tryd.prog ren7 where
  mixed := by kernel_rfl
  f30 := by kernel_rfl
  f47 := by kernel_rfl
  t0 := by kernel_rfl
  a0 := fun _ => by kernel_rfl
  z0 := fun _ => by kernel_rfl
  v0 := fun _ => by kernel_rfl
  i0 := by kernel_rfl
  t3 := by kernel_rfl
  a3 := fun _ => by kernel_rfl
  z3 := fun _ => by kernel_rfl
  v3 := fun _ => by kernel_rfl
  i3 := by kernel_rfl
  t4 := by kernel_rfl
  a4 := fun _ => by kernel_rfl
  z4 := fun _ => by kernel_rfl
  v4 := fun _ => by kernel_rfl
  i4 := by kernel_rfl
  t5 := by kernel_rfl
  a5 := fun _ => by kernel_rfl
  z5 := fun _ => by kernel_rfl
  v5 := fun _ => by kernel_rfl
  i5 := by kernel_rfl
  t21 := by kernel_rfl
  a21 := fun _ => by kernel_rfl
  z21 := fun _ => by kernel_rfl
  v21 := fun _ => by kernel_rfl
  i21 := by kernel_rfl
  t25 := by kernel_rfl
  a25 := fun _ => by kernel_rfl
  z25 := fun _ => by kernel_rfl
  v25 := fun _ => by kernel_rfl
  i25 := by kernel_rfl
  t27 := by kernel_rfl
  a27 := fun _ => by kernel_rfl
  z27 := fun _ => by kernel_rfl
  v27 := fun _ => by kernel_rfl
  i27 := by kernel_rfl
  t30 := by kernel_rfl
  a30 := fun _ => by kernel_rfl
  z30 := fun _ => by kernel_rfl
  v30 := fun _ => by kernel_rfl
  i30 := by kernel_rfl

theorem lays32 : Lays7.n32 Tryd.prog ren7 where
  mixed := by kernel_rfl
  f32 := by kernel_rfl
  f49 := by kernel_rfl
  t0 := by kernel_rfl
  a0 := fun _ => by kernel_rfl
  z0 := fun _ => by kernel_rfl
  v0 := fun _ => by kernel_rfl
  i0 := by kernel_rfl
  t3 := by kernel_rfl
  a3 := fun _ => by kernel_rfl
  z3 := fun _ => by kernel_rfl
  v3 := fun _ => by kernel_rfl
  i3 := by kernel_rfl
  t4 := by kernel_rfl
  a4 := fun _ => by kernel_rfl
  z4 := fun _ => by kernel_rfl
  v4 := fun _ => by kernel_rfl
  i4 := by kernel_rfl
  t5 := by kernel_rfl
  a5 := fun _ => by kernel_rfl
  z5 := fun _ => by kernel_rfl
  v5 := fun _ => by kernel_rfl
  i5 := by kernel_rfl
  t21 := by kernel_rfl
  a21 := fun _ => by kernel_rfl
  z21 := fun _ => by kernel_rfl
  v21 := fun _ => by kernel_rfl
  i21 := by kernel_rfl
  t25 := by kernel_rfl
  a25 := fun _ => by kernel_rfl
  z25 := fun _ => by kernel_rfl
  v25 := fun _ => by kernel_rfl
  i25 := by kernel_rfl
  t30 := by kernel_rfl
  a30 := fun _ => by kernel_rfl
  z30 := fun _ => by kernel_rfl
  v30 := fun _ => by kernel_rfl
  i30 := by kernel_rfl
  t33 := by kernel_rfl
  a33 := fun _ => by kernel_rfl
  z33 := fun _ => by kernel_rfl
  v33 := fun _ => by kernel_rfl
  i33 := by kernel_rfl
  t66 := by kernel_rfl
  a66 := fun _ => by kernel_rfl
  z66 := fun _ => by kernel_rfl
  t68 := by kernel_rfl
  a68 := fun _ => by kernel_rfl
  z68 := fun _ => by kernel_rfl
  v68 := fun _ => by kernel_rfl
  i68 := by kernel_rfl
  t69 := by kernel_rfl
  a69 := fun _ => by kernel_rfl
  z69 := fun _ => by kernel_rfl
  v69 := fun _ => by kernel_rfl
  i69 := by kernel_rfl
  g2 := by kernel_rfl
  g3 := by kernel_rfl
end Go.Proofs.YtancmlapnhccdaaDoor

/- bufio.Writer: WriteRune. -/
namespace Go.Proofs.YtancmlapnhccdaaDoor
open Go.RowKit

/-- a rune in UTF-8 -/
def encM (r : Int) : List UInt8 := Lib.encodeRune r
theorem encM_cells (r : Int) : Lib.runeCells r = bvs (encM r) := by
  unfold Lib.runeCells encM Lib.encodeRune bvs
  rw [List.map_map]
  apply List.map_congr_left
  intro x hx
  have hb := Lib.encodeRuneZ_byte r x hx
  simp only [Function.comp, bv]
  congr 1
  have : (x.toNat.toUInt8).toNat = x.toNat := by
    show (UInt8.ofNat x.toNat).toNat = _
    rw [UInt8.toNat_ofNat']
    omega
  omega
theorem encM_len (r : Int) : 1 ≤ (encM r).length ∧ (encM r).length ≤ 4 := by
  unfold encM Lib.encodeRune
  rw [List.length_map]
  unfold Lib.encodeRuneZ
  repeat' split
  all_goals simp
theorem encM_str (r : Int) : Utf8.encode r = strOf (encM r) := by
  unfold Utf8.encode encM Lib.encodeRune strOf
  have hv : Utf8.valid r = decide ((0 ≤ r ∧ r < 55296) ∨ (57344 ≤ r ∧ r ≤ 1114111)) := by
    unfold Utf8.valid
    rw [Bool.eq_iff_iff]
    simp
    try omega
  rw [hv]
  by_cases h : (0 ≤ r ∧ r < 55296) ∨ (57344 ≤ r ∧ r ≤ 1114111)
  · rw [decide_eq_true h, if_pos rfl]
    obtain ⟨n, rfl⟩ := Int.eq_ofNat_of_zero_le (show 0 ≤ r by omega)
    simp only [Int.toNat_natCast]
    by_cases h1 : n < 128
    · rw [if_pos h1, Lib.encodeRuneZ_one (by omega) (by omega)]
      simp
    · rw [if_neg h1]
      by_cases h2 : n < 2048
      · rw [if_pos h2, Lib.encodeRuneZ_two (by omega) (by omega)]
        simp only [List.map_cons, List.map_nil]
        rw [show ((192 : Int) + (n : Int) / 64).toNat = 192 + n / 64 by omega, show ((128 : Int) + (n : Int) % 64).toNat = 128 + n % 64 by omega]
      · rw [if_neg h2]
        by_cases h3 : n < 65536
        · rw [if_pos h3, Lib.encodeRuneZ_three (by omega)]
          simp only [List.map_cons, List.map_nil]
          rw [show ((224 : Int) + (n : Int) / 4096).toNat = 224 + n / 4096 by omega, show ((128 : Int) + (n : Int) / 64 % 64).toNat = 128 + n / 64 % 64 by omega, show ((128 : Int) + (n : Int) % 64).toNat = 128 + n % 64 by omega]
        · rw [if_neg h3, Lib.encodeRuneZ_four (by omega) (by omega)]
          simp only [List.map_cons, List.map_nil]
          rw [show ((240 : Int) + (n : Int) / 262144).toNat = 240 + n / 262144 by omega, show ((128 : Int) + (n : Int) / 4096 % 64).toNat = 128 + n / 4096 % 64 by omega, show ((128 : Int) + (n : Int) / 64 % 64).toNat = 128 + n / 64 % 64 by omega, show ((128 : Int) + (n : Int) % 64).toNat = 128 + n % 64 by omega]
  · rw [decide_eq_false h, Lib.encodeRuneZ_bad (by omega)]
    have e : (if false = true then r.toNat else Utf8.runeError) = 65533 := rfl
    simp only [e]
    decide

/-- cells set one after the other in a block that is known whole -/
theorem blk_setCells {g : Nat} {t : TypeId} : ∀ (vs : List Value) (o : Nat) (w : World) (cs : List Value), Blk w g t cs.toArray → o + vs.length ≤ cs.length → Blk (w.setCells g o vs) g t (splice cs o vs).toArray
  | [], o, w, cs, h, _ => by simpa [splice, World.setCells] using h
  | v :: r, o, w, cs, h, hl => by
    simp only [List.length_cons] at hl
    have h1 : Blk (w.setCell ⟨g, o, none⟩ v) g t (cs.set o v).toArray := by simpa using h.set_ o v
    have h2 := blk_setCells r (o + 1) (w.setCell ⟨g, o, none⟩ v) (cs.set o v) h1 (by rw [List.length_set]; omega)
    have e : splice (cs.set o v) (o + 1) r = splice cs o (v :: r) := by
      unfold splice
      rw [List.take_set, List.drop_set_of_lt (by omega), List.length_cons, show o + 1 + r.length = o + (r.length + 1) by omega]
      have : (cs.take (o + 1)).set o v = cs.take o ++ [v] := by
        rw [List.set_eq_take_append_cons_drop, if_pos (by simp; omega), List.take_take, Nat.min_eq_left (by omega), List.drop_of_length_le (by simp; omega)]
      rw [this]
      simp
    rw [← e]
    exact h2
theorem keep_setCells (g : Nat) : ∀ (vs : List Value) (o : Nat) (w : World), Keep (· = g) w (w.setCells g o vs)
  | [], _, w => Keep.refl _ w
  | v :: r, o, w => (keepC w g o v).trans (keep_setCells g r (o + 1) _)

theorem encode72 (g off n c : Nat) (cs : List Value) (r : Int) (hlo : -2147483648 ≤ r) (hhi : r ≤ 2147483647) (w : World) (hb : Blk w g 5 cs.toArray) (hl : (encM r).length ≤ n) (hfit : off + n ≤ cs.length) :
    Calls Tryd.prog 72 #[.slice (some ⟨g, off, none⟩) n c, .int .i32 r] w fun e w' => e = .returned (.int .i64 ((encM r).length : Nat)) ∧ Blk w' g 5 (splice cs off (bvs (encM r))).toArray ∧ Keep (· = g) w w' := by
  have hle : (Lib.runeCells r).length = (encM r).length := by rw [encM_cells, bvs_length]
  have h := Any7.utf8_EncodeRune lays30 g off n c r hlo hhi w (by rw [hle]; exact hl) (fun j hj => by
    rw [hb.cell]
    rw [hle] at hj
    simp [List.getElem?_eq_getElem (show off + j < cs.length by omega)]) (fun j _ => hb.frozen _)
  refine h.mono ?_
  rintro e w' ⟨rfl, rfl⟩
  rw [hle, encM_cells]
  exact ⟨rfl, blk_setCells _ _ _ _ hb (by rw [bvs_length]; omega), keep_setCells _ _ _ _⟩
def writeRuneM (s : WS) (r : Int) : WS :=
  if 0 ≤ r ∧ r < 128 then writeByteM s (UInt8.ofNat r.toNat)
  else if 4 ≤ s.buf.length - s.n then putM s (encM r)
  else if 4 ≤ s.buf.length then putM (flushM s) (encM r)
  else strM (flushM s) (encM r)

set_option maxRecDepth 100000 in
set_option maxHeartbeats 4000000 in
theorem writeRune57 (L : WL) (s : WS) (v : Value) (r : Int) (hlo : -2147483648 ≤ r) (hhi : r ≤ 2147483647) (w : World) (h : WtrAt w L s v) (hroom : Room (s.got.length + s.n + 4)) :
    Calls Tryd.prog 57 #[.pointer (some ⟨L.W, 0, none⟩), .int .i32 r] w (WGave L v (.tuple #[.int .i64 ((encM r).length : Nat), .nilIface]) (writeRuneM s r) w) := by
  obtain ⟨c0, c1, c2, c3⟩ := h.cells
  have hle := h.le
  have hhi2 := h.hi
  have hlo2 := h.lo
  have hel := encM_len r
  by_cases ha : 0 ≤ r ∧ r < 128
  · obtain ⟨b, hb⟩ : ∃ b : UInt8, r = (b.toNat : Int) := ⟨UInt8.ofNat r.toNat, by rw [UInt8.toNat_ofNat']; omega⟩
    have hx : writeRuneM s r = writeByteM s b := by
      have e : UInt8.ofNat r.toNat = b := by rw [hb, Int.toNat_natCast]; exact UInt8.ofNat_toNat
      simp only [writeRuneM, if_pos ha, e]
    have he : (encM r).length = 1 := by
      unfold encM Lib.encodeRune
      rw [Lib.encodeRuneZ_one ha.1 (by omega)]; rfl
    rw [hx, he]
    have H := Lib.hid (And.intro h hroom); clear h hroom hx he
    obtain ⟨h1, h2⟩ := ha
    subst hb
    have hb1 : b.toNat < 128 := by omega
    go_enter Tryd.func57, Tryd.ntmps57
    go_wp2_with fail
    refine (writeByte56 L s v b w H.out.1 (H.out.2.mono (by omega))).mono ?_
    rintro e w1 ⟨rfl, hn⟩
    have H1 := Lib.hid hn; clear hn
    go_wp2_with fail
    go_ret2
    exact ⟨rfl, H1.out⟩
  · have H := Lib.hid (And.intro h hroom); clear h hroom
    go_enter Tryd.func57, Tryd.ntmps57
    go_wp2_with fail
    refine (available62 L s v w H.out.1).mono ?_
    rintro e w1 ⟨rfl, m, rfl⟩
    obtain ⟨el, hel2⟩ : ∃ el, el = (encM r).length := ⟨_, rfl⟩
    by_cases h4 : 4 ≤ s.buf.length - s.n
    · have hd : ¬ (((s.buf.length - s.n : Nat) : Int) < 4) := by omega
      have hx : writeRuneM s r = putM s (encM r) := by simp only [writeRuneM, if_neg ha, if_pos h4]
      have hsl := slice_l L.WB s.buf.length s.n hle
      rw [cutA_pos (show s.n < s.buf.length by omega)] at hsl
      have hc := fun k => encode72 L.WB s.n (s.buf.length - s.n) (s.buf.length - s.n) (bvs s.buf) r hlo hhi (w.drewN k) (H.out.1.drewN k).buf (by omega) (by rw [bvs_length]; omega)
      have HC := Lib.hid hc; clear hc
      have hq := H.out.1.drewN m
      have k0 := Lib.hid (And.intro hq.cells.2.1 hq.cells.2.2.1)
      have n1 := hq.neB
      clear hq
      rw [← hel2] at HC
      have Hx := Lib.hid (And.intro hx hel2); clear hx hel2
      have hel3 : el ≤ 4 := by rw [Hx.out.2]; exact hel.2
      have hn3 : s.n ≤ 4096 := by omega
      clear c0 c1 c2 c3
      go_wp2_with fail
      go_region_held3 (fun w' => w'.cell? ⟨L.W, 1, none⟩ = some (.slice (some ⟨L.WB, 0, none⟩) s.buf.length s.buf.length) ∧ w'.cell? ⟨L.W, 2, none⟩ = some (.int .i64 (s.n : Nat))) (first | exact k0.out | exact k1.out)
        (first | (go_at_call 72; refine (HC.out _).mono ?_; rintro e w4 ⟨rfl, hG4, hK4⟩; have hW4 := (H.out.1.drewN _).blk.keep hK4 n1; have k1 := Lib.hid (And.intro (hW4.cell 1) (hW4.cell 2)); have H4 := Lib.hid (And.intro hG4 (And.intro hK4 hW4)); clear hG4 hK4 hW4 k0))
      have d2 := k1.out.2
      have f2 := H4.out.2.2.frozen 2
      clear k1
      go_wp2_with fail
      go_ret2
      obtain ⟨hG4, hK4, hW4⟩ := H4.out
      obtain ⟨hx, hel2⟩ := Hx.out
      have hput := (H.out.1.drewN _).put (encM r) (by omega) hG4 hK4
      rw [← hel2, show ((s.n + el : Nat) : Int) = (s.n : Int) + (el : Int) by omega] at hput
      rw [hx, ← hel2]
      exact ⟨rfl, v, hput.1, fun k hk => .inl hk, ((Keep.refl _ w).drewN _).trans hput.2⟩
    · have hd : ((s.buf.length - s.n : Nat) : Int) < 4 := by omega
      clear c0 c1 c2 c3
      go_wp2_with fail
      refine (flush38 L s v _ (H.out.1.drewN m) (H.out.2.mono (by omega))).mono ?_
      rintro e w2 ⟨rfl, v2, h2, hv2, hk2⟩
      obtain ⟨c0, c1, c2, c3⟩ := h2.cells
      have H2 := Lib.hid (And.intro h2 (And.intro hv2 hk2)); clear h2 hv2 hk2
      go_wp2_with fail
      refine (available62 L (flushM s) v2 w2 H2.out.1).mono ?_
      rintro e w3 ⟨rfl, m3, rfl⟩
      rw [show (flushM s).buf = s.buf from rfl, show (flushM s).n = 0 from rfl, Nat.sub_zero] at *
      by_cases h5 : 4 ≤ s.buf.length
      · have hd5 : ¬ ((s.buf.length : Int) < 4) := by omega
        have hx : writeRuneM s r = putM (flushM s) (encM r) := by simp only [writeRuneM, if_neg ha, if_neg h4, if_pos h5]
        have hsl := slice_l L.WB s.buf.length 0 (Nat.zero_le _)
        rw [cutA_pos (show 0 < s.buf.length by omega), Nat.sub_zero] at hsl
        have hc := fun k => encode72 L.WB 0 s.buf.length s.buf.length (bvs s.buf) r hlo hhi (w2.drewN k) (H2.out.1.drewN k).buf (by omega) (by rw [bvs_length]; omega)
        have HC := Lib.hid hc; clear hc
        have hq := H2.out.1.drewN m3
        have k0 := Lib.hid (And.intro hq.cells.2.1 hq.cells.2.2.1)
        have n1 := hq.neB
        clear hq
        rw [← hel2] at HC
        have Hx := Lib.hid (And.intro hx hel2); clear hx hel2
        have hel3 : el ≤ 4 := by rw [Hx.out.2]; exact hel.2
        clear c0 c1 c2 c3
        go_wp2_with fail
        go_region_held3 (fun w' => w'.cell? ⟨L.W, 1, none⟩ = some (.slice (some ⟨L.WB, 0, none⟩) s.buf.length s.buf.length) ∧ w'.cell? ⟨L.W, 2, none⟩ = some (.int .i64 ((0 : Nat) : Int))) (first | exact k0.out | exact k1.out)
          (first | (go_at_call 72; refine (HC.out _).mono ?_; rintro e w4 ⟨rfl, hG4, hK4⟩; have hW4 := (H2.out.1.drewN _).blk.keep hK4 n1; have k1 := Lib.hid (And.intro (hW4.cell 1) (hW4.cell 2)); have H4 := Lib.hid (And.intro hG4 (And.intro hK4 hW4)); clear hG4 hK4 hW4 k0))
        have d2 : w4.cell? ⟨L.W, 2, none⟩ = some (.int .i64 0) := k1.out.2
        have f2 := H4.out.2.2.frozen 2
        clear k1
        go_wp2_with fail
        go_ret2
        obtain ⟨hG4, hK4, hW4⟩ := H4.out
        obtain ⟨hx, hel2⟩ := Hx.out
        obtain ⟨h2, hv2, hk2⟩ := H2.out
        have hput := (h2.drewN _).put (encM r) (by show (encM r).length ≤ s.buf.length - 0; omega) hG4 hK4
        rw [show (flushM s).n = 0 from rfl, ← hel2, Nat.zero_add] at hput
        rw [hx, ← hel2]
        refine ⟨rfl, WNext.trans (w := w) hv2 (((Keep.refl _ w).drewN _).trans hk2) ?_⟩
        exact ⟨v2, hput.1, fun k hk => .inl hk, ((Keep.refl _ w2).drewN _).trans hput.2⟩
      · have hd5 : (s.buf.length : Int) < 4 := by omega
        have hx : writeRuneM s r = strM (flushM s) (encM r) := by simp only [writeRuneM, if_neg ha, if_neg h4, if_neg h5]
        have Hx := Lib.hid hx; clear hx
        have hes := encM_str r
        go_wp2_with fail
        refine (writeString58 L (flushM s) v2 (encM r) _ (H2.out.1.drewN _) ?_).mono ?_
        · refine H.out.2.mono ?_
          show (s.got ++ s.buf.take s.n).length + 0 + (encM r).length ≤ _
          rw [List.length_append, List.length_take]
          omega
        rintro e w5 ⟨rfl, hn5⟩
        have H5 := Lib.hid hn5; clear hn5
        go_wp2_with fail
        go_ret2
        rw [Hx.out]
        obtain ⟨h2, hv2, hk2⟩ := H2.out
        exact ⟨rfl, WNext.trans (w := w) (w1 := w2.drewN m3) hv2 ((((Keep.refl _ w).drewN _).trans hk2).drewN _) H5.out⟩
end Go.Proofs.YtancmlapnhccdaaDoor
