/- spec.first: the walk (printed by gen_first.py). -/
import Derived.Test.YtancmlapnhccdaaDoorSpb
namespace Go.Proofs.YtancmlapnhccdaaDoor
open Go.RowKit

set_option maxRecDepth 100000 in
set_option maxHeartbeats 2000000 in
theorem first_2 (A : Option Addr) (c : Nat) (l : List UInt8) (B : Nat) (w : World) (h : Reads w B 1 A l.length (bvs l)) (hc : l.length ≤ c) (h0 : l ≠ []) (h1 : 194 ≤ (l.getD 0 0).toNat) (h2 : (l.getD 0 0).toNat ≤ 223) :
    Calls Tryd.prog 40 #[.slice A l.length c] w (First40 l w) := by
  obtain ⟨ad, rfl, hcl⟩ := head_cell h h0
  have hl : 0 < l.length := List.length_pos_iff.2 h0
  have hlead : leadN (l.getD 0 0).toNat = (2, 128, (l.getD 0 0).toNat - 192) := by
    unfold leadN
    rw [if_pos ⟨h1, h2⟩]
  by_cases hs : l.length < 2
  · have H := Lib.hid (first_none (l := l) (by omega) (.inr (by rw [hlead]; exact hs)))
    have hs' : decide (l.length < 2) = true := by simpa using hs
    clear h h0 hlead
    generalize (l.getD 0 0).toNat = b at *
    go_enter Tryd.func40, Tryd.ntmps40
    go_wp2_with fail
    go_ret2
    refine ⟨?_, rfl⟩
    rw [H.out]
    rfl
  · obtain ⟨ys, hys⟩ : ∃ ys, ys = (l.drop 1).take 1 := ⟨_, rfl⟩
    have hyl : ys.length = 1 := by rw [hys]; exact tail_len l 1 (by omega)
    obtain ⟨ad1, had1⟩ : ∃ a, a = ad.add 1 := ⟨_, rfl⟩
    have hcell : ∀ i, (hi : i < ys.length) → w.cell? (ad1.add i) = some (.int .u8 ((ys[i].toNat : Nat) : Int)) := by
      intro i hi
      obtain ⟨ad', e, _, hcc⟩ := h.2 (by omega)
      cases e
      rw [had1, add_of_add]
      refine hcc (1 + i) _ ?_
      have q := List.getElem?_eq_getElem hi
      have q2 : ys[i]? = l[1 + i]? := by rw [hys, List.getElem?_take, if_pos (by omega), List.getElem?_drop]
      rw [bvs_get, ← q2, q]
      rfl
    have hget : ∀ i, (hi : i < ys.length) → ys[i] = l.getD (i + 1) 0 := by
      intro i hi
      have q := List.getElem?_eq_getElem hi
      have q2 : ys[i]? = l[1 + i]? := by rw [hys, List.getElem?_take, if_pos (by omega), List.getElem?_drop]
      rw [List.getD_eq_getElem?_getD, Nat.add_comm i 1, ← q2, q]
      rfl
    obtain ⟨b, hb⟩ : ∃ b, b = (l.getD 0 0).toNat := ⟨_, rfl⟩
    rw [← hb] at h1 h2 hlead hcl
    have hcu : cutS (some ad) c 1 = some ad1 := by unfold cutS; rw [if_neg (by omega), had1]; rfl
    have hsl : ∀ w, (Instr.slice 25 (.slice (some ad) l.length c) (some (.int .i64 1)) (some (.int .i64 2)) none).run Tryd.prog w = .ok (.slice (some ad1) 1 (c - 1)) w := fun w => by rw [← hcu]; exact slice_part ad l.length c 1 2 (by omega) (by omega) w
    have hall : (∀ y ∈ ys, Cont y) → decM l = if okR 128 (accY (b - 192) ys) then (accY (b - 192) ys, 2) else (65533, 1) := by
      intro hy
      rw [hys] at hy ⊢
      exact first_all (n := 1) (by rw [← hb]; exact hlead) (by omega) hy (by omega)
    have hbad : ∀ i, (hi : i < ys.length) → ¬ Cont ys[i] → decM l = (65533, 1) := by
      intro i hi hy
      refine first_bad (n := 1) (by rw [← hb, hlead]) (by omega) (i := i) (by omega) ?_
      rw [hget i hi] at hy
      unfold Cont at hy
      omega
    have H := Lib.hid (And.intro hcell (And.intro hall (And.intro hbad hyl)))
    clear hcell hall hbad hget hys hb hlead h h0 hcu had1 hyl
    have hs' : decide (l.length < 2) = false := by simpa using hs
    have w0 : decide ((b : Int) < 128) = false := by simp; omega
    have w223 : decide ((b : Int) ≤ 223) = true := by simp; omega
    go_enter Tryd.func40, Tryd.ntmps40
    go_wp2_with fail
    go_loopg [4, 56] 1 (fun k t4 t56 wr => ∃ i : Nat, i ≤ 1 ∧ t56 = .int .i64 (i : Nat) ∧ t4 = .int .i64 ((accY (b - 192) (ys.take i) : Nat) : Int) ∧ wr = w ∧ (∀ y ∈ ys.take i, Cont y) ∧ accY (b - 192) (ys.take i) < 64 ^ (i + 1) ∧ k = 1 - i)
    case atStart =>
      refine ⟨0, Nat.zero_le _, rfl, ?_, rfl, by simp, by simp [accY]; omega, rfl⟩
      refine congrArg (Value.int .i64) ?_
      simp only [List.take_zero, accY, List.foldl_nil]
      first | omega | (rw [IntWalk.wrap64_in _ (by omega)]; omega)
    case round =>
      obtain ⟨i, hi, ht56, ht4, hwr, hco, hle, hk⟩ := hrel
      subst ht56 ht4 hwr
      have Hk := Lib.hid (And.intro hk hco); clear hk hco
      by_cases hlt : i < 1
      · have hli : i < ys.length := by rw [H.out.2.2.2]; exact hlt
        have hd : decide (i < 1) = true := by simpa using hlt
        have hce := H.out.1 i hli
        have hb3 := acc_step (b - 192) ys i hli
        have hle3 : accY (b - 192) (ys.take i) ≤ 262144 := Nat.le_trans (Nat.le_of_lt hle) (Nat.le_trans (Nat.pow_le_pow_right (by omega) (show i + 1 ≤ 3 by omega)) (by decide))
        have h256 : (ys[i]).toNat < 256 := u8lt _
        have hta : ys.take (i + 1) = ys.take i ++ [ys[i]] := by rw [List.take_add_one, List.getElem?_eq_getElem hli]; rfl
        have HB := Lib.hid (And.intro hb3 (And.intro hle hta)); clear hb3 hle hta
        have hyi := Lib.hid (H.out.2.2.1 i hli)
        by_cases hcont : Cont ys[i]
        · obtain ⟨g1, g2⟩ := hcont
          generalize hyy : ys[i] = y at *
          have Hyy := Lib.hid hyy; clear hyy hyi
          generalize accY (b - 192) (ys.take i) = x at *
          go_wp2_with fail
          go_roundg (1 - (i + 1))
          case measure => have := Hk.out.1; omega
          case rel =>
            refine ⟨i + 1, hlt, ?_, ?_, rfl, ?_, ?_, rfl⟩
            · refine congrArg (Value.int .i64) ?_
              first | rfl | omega | (rw [IntWalk.wrap64_in _ (by omega)]; rfl)
            · refine congrArg (Value.int .i64) ?_
              rw [HB.out.1]
              first | omega | (rw [IntWalk.wrap64_in _ (by omega)]; omega)
            · rw [HB.out.2.2]
              intro z hz
              rw [List.mem_append, List.mem_singleton] at hz
              rcases hz with hz | hz
              · exact Hk.out.2 z hz
              · rw [hz]; exact ⟨g1, g2⟩
            · rw [HB.out.1, Nat.pow_succ]
              have := HB.out.2.1
              omega
        · have HD := Lib.hid (hyi.out hcont)
          have hno : (ys[i]).toNat < 128 ∨ (128 ≤ (ys[i]).toNat ∧ 191 < (ys[i]).toNat) := by unfold Cont at hcont; omega
          clear hyi hcont
          generalize ys[i] = y at *
          generalize accY (b - 192) (ys.take i) = x at *
          rcases hno with g | ⟨g1, g2⟩
          · go_wp2_with fail
            go_ret2
            refine ⟨?_, rfl⟩
            rw [HD.out]
            rfl
          · go_wp2_with fail
            go_ret2
            refine ⟨?_, rfl⟩
            rw [HD.out]
            rfl
      · have him : i = 1 := by omega
        have hta : ys.take i = ys := List.take_of_length_le (by rw [H.out.2.2.2]; omega)
        have hD := H.out.2.1 (by have := Hk.out.2; rw [hta] at this; exact this)
        have hd : decide (i < 1) = false := by simpa using hlt
        have hle3 : accY (b - 192) (ys.take i) ≤ 16777216 := Nat.le_trans (Nat.le_of_lt hle) (Nat.le_trans (Nat.pow_le_pow_right (by omega) (show i + 1 ≤ 4 by omega)) (by decide))
        rw [← hta] at hD
        have HD := Lib.hid hD
        clear hD him hta hle
        generalize accY (b - 192) (ys.take i) = x at *
        by_cases hok : okR 128 x
        · have he : decM l = (x, 2) := HD.out.trans (if_pos hok)
          have HE := Lib.hid he; clear he
          unfold okR at hok
          obtain ⟨g1, g2, g3⟩ := hok
          by_cases gs : 55296 ≤ x
          · have g4 : ¬ x ≤ 57343 := fun h => g3 ⟨gs, h⟩
            clear g3 HD
            go_wp2_with fail
            go_ret2
            refine ⟨?_, rfl⟩
            rw [HE.out]
            rfl
          · clear g3 HD
            go_wp2_with fail
            all_goals (go_ret2; refine ⟨?_, rfl⟩; rw [HE.out]; rfl)
        · have he : decM l = (65533, 1) := HD.out.trans (if_neg hok)
          have HE := Lib.hid he; clear he
          have hno : x < 128 ∨ (128 ≤ x ∧ 1114111 < x) ∨ (128 ≤ x ∧ x ≤ 1114111 ∧ 55296 ≤ x ∧ x ≤ 57343) := by unfold okR at hok; omega
          clear hok HD
          rcases hno with g | ⟨g1, g2⟩ | ⟨g1, g2, g3, g4⟩
          · go_wp2_with fail
            go_ret2
            refine ⟨?_, rfl⟩
            rw [HE.out]
            rfl
          · go_wp2_with fail
            go_ret2
            refine ⟨?_, rfl⟩
            rw [HE.out]
            rfl
          · go_wp2_with fail
            all_goals (go_ret2; refine ⟨?_, rfl⟩; rw [HE.out]; rfl)

set_option maxRecDepth 100000 in
set_option maxHeartbeats 2000000 in
theorem first_3 (A : Option Addr) (c : Nat) (l : List UInt8) (B : Nat) (w : World) (h : Reads w B 1 A l.length (bvs l)) (hc : l.length ≤ c) (h0 : l ≠ []) (h1 : 224 ≤ (l.getD 0 0).toNat) (h2 : (l.getD 0 0).toNat ≤ 239) :
    Calls Tryd.prog 40 #[.slice A l.length c] w (First40 l w) := by
  obtain ⟨ad, rfl, hcl⟩ := head_cell h h0
  have hl : 0 < l.length := List.length_pos_iff.2 h0
  have hlead : leadN (l.getD 0 0).toNat = (3, 2048, (l.getD 0 0).toNat - 224) := by
    unfold leadN
    rw [if_neg (by omega), if_pos ⟨h1, h2⟩]
  by_cases hs : l.length < 3
  · have H := Lib.hid (first_none (l := l) (by omega) (.inr (by rw [hlead]; exact hs)))
    have hs' : decide (l.length < 3) = true := by simpa using hs
    clear h h0 hlead
    generalize (l.getD 0 0).toNat = b at *
    go_enter Tryd.func40, Tryd.ntmps40
    go_wp2_with fail
    go_ret2
    refine ⟨?_, rfl⟩
    rw [H.out]
    rfl
  · obtain ⟨ys, hys⟩ : ∃ ys, ys = (l.drop 1).take 2 := ⟨_, rfl⟩
    have hyl : ys.length = 2 := by rw [hys]; exact tail_len l 2 (by omega)
    obtain ⟨ad1, had1⟩ : ∃ a, a = ad.add 1 := ⟨_, rfl⟩
    have hcell : ∀ i, (hi : i < ys.length) → w.cell? (ad1.add i) = some (.int .u8 ((ys[i].toNat : Nat) : Int)) := by
      intro i hi
      obtain ⟨ad', e, _, hcc⟩ := h.2 (by omega)
      cases e
      rw [had1, add_of_add]
      refine hcc (1 + i) _ ?_
      have q := List.getElem?_eq_getElem hi
      have q2 : ys[i]? = l[1 + i]? := by rw [hys, List.getElem?_take, if_pos (by omega), List.getElem?_drop]
      rw [bvs_get, ← q2, q]
      rfl
    have hget : ∀ i, (hi : i < ys.length) → ys[i] = l.getD (i + 1) 0 := by
      intro i hi
      have q := List.getElem?_eq_getElem hi
      have q2 : ys[i]? = l[1 + i]? := by rw [hys, List.getElem?_take, if_pos (by omega), List.getElem?_drop]
      rw [List.getD_eq_getElem?_getD, Nat.add_comm i 1, ← q2, q]
      rfl
    obtain ⟨b, hb⟩ : ∃ b, b = (l.getD 0 0).toNat := ⟨_, rfl⟩
    rw [← hb] at h1 h2 hlead hcl
    have hcu : cutS (some ad) c 1 = some ad1 := by unfold cutS; rw [if_neg (by omega), had1]; rfl
    have hsl : ∀ w, (Instr.slice 25 (.slice (some ad) l.length c) (some (.int .i64 1)) (some (.int .i64 3)) none).run Tryd.prog w = .ok (.slice (some ad1) 2 (c - 1)) w := fun w => by rw [← hcu]; exact slice_part ad l.length c 1 3 (by omega) (by omega) w
    have hall : (∀ y ∈ ys, Cont y) → decM l = if okR 2048 (accY (b - 224) ys) then (accY (b - 224) ys, 3) else (65533, 1) := by
      intro hy
      rw [hys] at hy ⊢
      exact first_all (n := 2) (by rw [← hb]; exact hlead) (by omega) hy (by omega)
    have hbad : ∀ i, (hi : i < ys.length) → ¬ Cont ys[i] → decM l = (65533, 1) := by
      intro i hi hy
      refine first_bad (n := 2) (by rw [← hb, hlead]) (by omega) (i := i) (by omega) ?_
      rw [hget i hi] at hy
      unfold Cont at hy
      omega
    have H := Lib.hid (And.intro hcell (And.intro hall (And.intro hbad hyl)))
    clear hcell hall hbad hget hys hb hlead h h0 hcu had1 hyl
    have hs' : decide (l.length < 3) = false := by simpa using hs
    have w0 : decide ((b : Int) < 128) = false := by simp; omega
    have w223 : decide ((b : Int) ≤ 223) = false := by simp; omega
    have w239 : decide ((b : Int) ≤ 239) = true := by simp; omega
    go_enter Tryd.func40, Tryd.ntmps40
    go_wp2_with fail
    go_loopg [4, 56] 2 (fun k t4 t56 wr => ∃ i : Nat, i ≤ 2 ∧ t56 = .int .i64 (i : Nat) ∧ t4 = .int .i64 ((accY (b - 224) (ys.take i) : Nat) : Int) ∧ wr = w ∧ (∀ y ∈ ys.take i, Cont y) ∧ accY (b - 224) (ys.take i) < 64 ^ (i + 1) ∧ k = 2 - i)
    case atStart =>
      refine ⟨0, Nat.zero_le _, rfl, ?_, rfl, by simp, by simp [accY]; omega, rfl⟩
      refine congrArg (Value.int .i64) ?_
      simp only [List.take_zero, accY, List.foldl_nil]
      first | omega | (rw [IntWalk.wrap64_in _ (by omega)]; omega)
    case round =>
      obtain ⟨i, hi, ht56, ht4, hwr, hco, hle, hk⟩ := hrel
      subst ht56 ht4 hwr
      have Hk := Lib.hid (And.intro hk hco); clear hk hco
      by_cases hlt : i < 2
      · have hli : i < ys.length := by rw [H.out.2.2.2]; exact hlt
        have hd : decide (i < 2) = true := by simpa using hlt
        have hce := H.out.1 i hli
        have hb3 := acc_step (b - 224) ys i hli
        have hle3 : accY (b - 224) (ys.take i) ≤ 262144 := Nat.le_trans (Nat.le_of_lt hle) (Nat.le_trans (Nat.pow_le_pow_right (by omega) (show i + 1 ≤ 3 by omega)) (by decide))
        have h256 : (ys[i]).toNat < 256 := u8lt _
        have hta : ys.take (i + 1) = ys.take i ++ [ys[i]] := by rw [List.take_add_one, List.getElem?_eq_getElem hli]; rfl
        have HB := Lib.hid (And.intro hb3 (And.intro hle hta)); clear hb3 hle hta
        have hyi := Lib.hid (H.out.2.2.1 i hli)
        by_cases hcont : Cont ys[i]
        · obtain ⟨g1, g2⟩ := hcont
          generalize hyy : ys[i] = y at *
          have Hyy := Lib.hid hyy; clear hyy hyi
          generalize accY (b - 224) (ys.take i) = x at *
          go_wp2_with fail
          go_roundg (2 - (i + 1))
          case measure => have := Hk.out.1; omega
          case rel =>
            refine ⟨i + 1, hlt, ?_, ?_, rfl, ?_, ?_, rfl⟩
            · refine congrArg (Value.int .i64) ?_
              first | rfl | omega | (rw [IntWalk.wrap64_in _ (by omega)]; rfl)
            · refine congrArg (Value.int .i64) ?_
              rw [HB.out.1]
              first | omega | (rw [IntWalk.wrap64_in _ (by omega)]; omega)
            · rw [HB.out.2.2]
              intro z hz
              rw [List.mem_append, List.mem_singleton] at hz
              rcases hz with hz | hz
              · exact Hk.out.2 z hz
              · rw [hz]; exact ⟨g1, g2⟩
            · rw [HB.out.1, Nat.pow_succ]
              have := HB.out.2.1
              omega
        · have HD := Lib.hid (hyi.out hcont)
          have hno : (ys[i]).toNat < 128 ∨ (128 ≤ (ys[i]).toNat ∧ 191 < (ys[i]).toNat) := by unfold Cont at hcont; omega
          clear hyi hcont
          generalize ys[i] = y at *
          generalize accY (b - 224) (ys.take i) = x at *
          rcases hno with g | ⟨g1, g2⟩
          · go_wp2_with fail
            go_ret2
            refine ⟨?_, rfl⟩
            rw [HD.out]
            rfl
          · go_wp2_with fail
            go_ret2
            refine ⟨?_, rfl⟩
            rw [HD.out]
            rfl
      · have him : i = 2 := by omega
        have hta : ys.take i = ys := List.take_of_length_le (by rw [H.out.2.2.2]; omega)
        have hD := H.out.2.1 (by have := Hk.out.2; rw [hta] at this; exact this)
        have hd : decide (i < 2) = false := by simpa using hlt
        have hle3 : accY (b - 224) (ys.take i) ≤ 16777216 := Nat.le_trans (Nat.le_of_lt hle) (Nat.le_trans (Nat.pow_le_pow_right (by omega) (show i + 1 ≤ 4 by omega)) (by decide))
        rw [← hta] at hD
        have HD := Lib.hid hD
        clear hD him hta hle
        generalize accY (b - 224) (ys.take i) = x at *
        by_cases hok : okR 2048 x
        · have he : decM l = (x, 3) := HD.out.trans (if_pos hok)
          have HE := Lib.hid he; clear he
          unfold okR at hok
          obtain ⟨g1, g2, g3⟩ := hok
          by_cases gs : 55296 ≤ x
          · have g4 : ¬ x ≤ 57343 := fun h => g3 ⟨gs, h⟩
            clear g3 HD
            go_wp2_with fail
            go_ret2
            refine ⟨?_, rfl⟩
            rw [HE.out]
            rfl
          · clear g3 HD
            go_wp2_with fail
            all_goals (go_ret2; refine ⟨?_, rfl⟩; rw [HE.out]; rfl)
        · have he : decM l = (65533, 1) := HD.out.trans (if_neg hok)
          have HE := Lib.hid he; clear he
          have hno : x < 2048 ∨ (2048 ≤ x ∧ 1114111 < x) ∨ (2048 ≤ x ∧ x ≤ 1114111 ∧ 55296 ≤ x ∧ x ≤ 57343) := by unfold okR at hok; omega
          clear hok HD
          rcases hno with g | ⟨g1, g2⟩ | ⟨g1, g2, g3, g4⟩
          · go_wp2_with fail
            go_ret2
            refine ⟨?_, rfl⟩
            rw [HE.out]
            rfl
          · go_wp2_with fail
            go_ret2
            refine ⟨?_, rfl⟩
            rw [HE.out]
            rfl
          · go_wp2_with fail
            all_goals (go_ret2; refine ⟨?_, rfl⟩; rw [HE.out]; rfl)

set_option maxRecDepth 100000 in
set_option maxHeartbeats 2000000 in
theorem first_4 (A : Option Addr) (c : Nat) (l : List UInt8) (B : Nat) (w : World) (h : Reads w B 1 A l.length (bvs l)) (hc : l.length ≤ c) (h0 : l ≠ []) (h1 : 240 ≤ (l.getD 0 0).toNat) (h2 : (l.getD 0 0).toNat ≤ 244) :
    Calls Tryd.prog 40 #[.slice A l.length c] w (First40 l w) := by
  obtain ⟨ad, rfl, hcl⟩ := head_cell h h0
  have hl : 0 < l.length := List.length_pos_iff.2 h0
  have hlead : leadN (l.getD 0 0).toNat = (4, 65536, (l.getD 0 0).toNat - 240) := by
    unfold leadN
    rw [if_neg (by omega), if_neg (by omega), if_pos ⟨h1, h2⟩]
  by_cases hs : l.length < 4
  · have H := Lib.hid (first_none (l := l) (by omega) (.inr (by rw [hlead]; exact hs)))
    have hs' : decide (l.length < 4) = true := by simpa using hs
    clear h h0 hlead
    generalize (l.getD 0 0).toNat = b at *
    go_enter Tryd.func40, Tryd.ntmps40
    go_wp2_with fail
    go_ret2
    refine ⟨?_, rfl⟩
    rw [H.out]
    rfl
  · obtain ⟨ys, hys⟩ : ∃ ys, ys = (l.drop 1).take 3 := ⟨_, rfl⟩
    have hyl : ys.length = 3 := by rw [hys]; exact tail_len l 3 (by omega)
    obtain ⟨ad1, had1⟩ : ∃ a, a = ad.add 1 := ⟨_, rfl⟩
    have hcell : ∀ i, (hi : i < ys.length) → w.cell? (ad1.add i) = some (.int .u8 ((ys[i].toNat : Nat) : Int)) := by
      intro i hi
      obtain ⟨ad', e, _, hcc⟩ := h.2 (by omega)
      cases e
      rw [had1, add_of_add]
      refine hcc (1 + i) _ ?_
      have q := List.getElem?_eq_getElem hi
      have q2 : ys[i]? = l[1 + i]? := by rw [hys, List.getElem?_take, if_pos (by omega), List.getElem?_drop]
      rw [bvs_get, ← q2, q]
      rfl
    have hget : ∀ i, (hi : i < ys.length) → ys[i] = l.getD (i + 1) 0 := by
      intro i hi
      have q := List.getElem?_eq_getElem hi
      have q2 : ys[i]? = l[1 + i]? := by rw [hys, List.getElem?_take, if_pos (by omega), List.getElem?_drop]
      rw [List.getD_eq_getElem?_getD, Nat.add_comm i 1, ← q2, q]
      rfl
    obtain ⟨b, hb⟩ : ∃ b, b = (l.getD 0 0).toNat := ⟨_, rfl⟩
    rw [← hb] at h1 h2 hlead hcl
    have hcu : cutS (some ad) c 1 = some ad1 := by unfold cutS; rw [if_neg (by omega), had1]; rfl
    have hsl : ∀ w, (Instr.slice 25 (.slice (some ad) l.length c) (some (.int .i64 1)) (some (.int .i64 4)) none).run Tryd.prog w = .ok (.slice (some ad1) 3 (c - 1)) w := fun w => by rw [← hcu]; exact slice_part ad l.length c 1 4 (by omega) (by omega) w
    have hall : (∀ y ∈ ys, Cont y) → decM l = if okR 65536 (accY (b - 240) ys) then (accY (b - 240) ys, 4) else (65533, 1) := by
      intro hy
      rw [hys] at hy ⊢
      exact first_all (n := 3) (by rw [← hb]; exact hlead) (by omega) hy (by omega)
    have hbad : ∀ i, (hi : i < ys.length) → ¬ Cont ys[i] → decM l = (65533, 1) := by
      intro i hi hy
      refine first_bad (n := 3) (by rw [← hb, hlead]) (by omega) (i := i) (by omega) ?_
      rw [hget i hi] at hy
      unfold Cont at hy
      omega
    have H := Lib.hid (And.intro hcell (And.intro hall (And.intro hbad hyl)))
    clear hcell hall hbad hget hys hb hlead h h0 hcu had1 hyl
    have hs' : decide (l.length < 4) = false := by simpa using hs
    have w0 : decide ((b : Int) < 128) = false := by simp; omega
    have w223 : decide ((b : Int) ≤ 223) = false := by simp; omega
    have w239 : decide ((b : Int) ≤ 239) = false := by simp; omega
    have w244 : decide ((b : Int) ≤ 244) = true := by simp; omega
    go_enter Tryd.func40, Tryd.ntmps40
    go_wp2_with fail
    go_loopg [4, 56] 3 (fun k t4 t56 wr => ∃ i : Nat, i ≤ 3 ∧ t56 = .int .i64 (i : Nat) ∧ t4 = .int .i64 ((accY (b - 240) (ys.take i) : Nat) : Int) ∧ wr = w ∧ (∀ y ∈ ys.take i, Cont y) ∧ accY (b - 240) (ys.take i) < 64 ^ (i + 1) ∧ k = 3 - i)
    case atStart =>
      refine ⟨0, Nat.zero_le _, rfl, ?_, rfl, by simp, by simp [accY]; omega, rfl⟩
      refine congrArg (Value.int .i64) ?_
      simp only [List.take_zero, accY, List.foldl_nil]
      first | omega | (rw [IntWalk.wrap64_in _ (by omega)]; omega)
    case round =>
      obtain ⟨i, hi, ht56, ht4, hwr, hco, hle, hk⟩ := hrel
      subst ht56 ht4 hwr
      have Hk := Lib.hid (And.intro hk hco); clear hk hco
      by_cases hlt : i < 3
      · have hli : i < ys.length := by rw [H.out.2.2.2]; exact hlt
        have hd : decide (i < 3) = true := by simpa using hlt
        have hce := H.out.1 i hli
        have hb3 := acc_step (b - 240) ys i hli
        have hle3 : accY (b - 240) (ys.take i) ≤ 262144 := Nat.le_trans (Nat.le_of_lt hle) (Nat.le_trans (Nat.pow_le_pow_right (by omega) (show i + 1 ≤ 3 by omega)) (by decide))
        have h256 : (ys[i]).toNat < 256 := u8lt _
        have hta : ys.take (i + 1) = ys.take i ++ [ys[i]] := by rw [List.take_add_one, List.getElem?_eq_getElem hli]; rfl
        have HB := Lib.hid (And.intro hb3 (And.intro hle hta)); clear hb3 hle hta
        have hyi := Lib.hid (H.out.2.2.1 i hli)
        by_cases hcont : Cont ys[i]
        · obtain ⟨g1, g2⟩ := hcont
          generalize hyy : ys[i] = y at *
          have Hyy := Lib.hid hyy; clear hyy hyi
          generalize accY (b - 240) (ys.take i) = x at *
          go_wp2_with fail
          go_roundg (3 - (i + 1))
          case measure => have := Hk.out.1; omega
          case rel =>
            refine ⟨i + 1, hlt, ?_, ?_, rfl, ?_, ?_, rfl⟩
            · refine congrArg (Value.int .i64) ?_
              first | rfl | omega | (rw [IntWalk.wrap64_in _ (by omega)]; rfl)
            · refine congrArg (Value.int .i64) ?_
              rw [HB.out.1]
              first | omega | (rw [IntWalk.wrap64_in _ (by omega)]; omega)
            · rw [HB.out.2.2]
              intro z hz
              rw [List.mem_append, List.mem_singleton] at hz
              rcases hz with hz | hz
              · exact Hk.out.2 z hz
              · rw [hz]; exact ⟨g1, g2⟩
            · rw [HB.out.1, Nat.pow_succ]
              have := HB.out.2.1
              omega
        · have HD := Lib.hid (hyi.out hcont)
          have hno : (ys[i]).toNat < 128 ∨ (128 ≤ (ys[i]).toNat ∧ 191 < (ys[i]).toNat) := by unfold Cont at hcont; omega
          clear hyi hcont
          generalize ys[i] = y at *
          generalize accY (b - 240) (ys.take i) = x at *
          rcases hno with g | ⟨g1, g2⟩
          · go_wp2_with fail
            go_ret2
            refine ⟨?_, rfl⟩
            rw [HD.out]
            rfl
          · go_wp2_with fail
            go_ret2
            refine ⟨?_, rfl⟩
            rw [HD.out]
            rfl
      · have him : i = 3 := by omega
        have hta : ys.take i = ys := List.take_of_length_le (by rw [H.out.2.2.2]; omega)
        have hD := H.out.2.1 (by have := Hk.out.2; rw [hta] at this; exact this)
        have hd : decide (i < 3) = false := by simpa using hlt
        have hle3 : accY (b - 240) (ys.take i) ≤ 16777216 := Nat.le_trans (Nat.le_of_lt hle) (Nat.le_trans (Nat.pow_le_pow_right (by omega) (show i + 1 ≤ 4 by omega)) (by decide))
        rw [← hta] at hD
        have HD := Lib.hid hD
        clear hD him hta hle
        generalize accY (b - 240) (ys.take i) = x at *
        by_cases hok : okR 65536 x
        · have he : decM l = (x, 4) := HD.out.trans (if_pos hok)
          have HE := Lib.hid he; clear he
          unfold okR at hok
          obtain ⟨g1, g2, g3⟩ := hok
          by_cases gs : 55296 ≤ x
          · have g4 : ¬ x ≤ 57343 := fun h => g3 ⟨gs, h⟩
            clear g3 HD
            go_wp2_with fail
            go_ret2
            refine ⟨?_, rfl⟩
            rw [HE.out]
            rfl
          · clear g3 HD
            go_wp2_with fail
            all_goals (go_ret2; refine ⟨?_, rfl⟩; rw [HE.out]; rfl)
        · have he : decM l = (65533, 1) := HD.out.trans (if_neg hok)
          have HE := Lib.hid he; clear he
          have hno : x < 65536 ∨ (65536 ≤ x ∧ 1114111 < x) ∨ (65536 ≤ x ∧ x ≤ 1114111 ∧ 55296 ≤ x ∧ x ≤ 57343) := by unfold okR at hok; omega
          clear hok HD
          rcases hno with g | ⟨g1, g2⟩ | ⟨g1, g2, g3, g4⟩
          · go_wp2_with fail
            go_ret2
            refine ⟨?_, rfl⟩
            rw [HE.out]
            rfl
          · go_wp2_with fail
            go_ret2
            refine ⟨?_, rfl⟩
            rw [HE.out]
            rfl
          · go_wp2_with fail
            all_goals (go_ret2; refine ⟨?_, rfl⟩; rw [HE.out]; rfl)

theorem first40 (A : Option Addr) (c : Nat) (l : List UInt8) (B : Nat) (w : World) (h : Reads w B 1 A l.length (bvs l)) (hc : l.length ≤ c) (h0 : l ≠ []) :
    Calls Tryd.prog 40 #[.slice A l.length c] w (First40 l w) := by
  have h256 := getD_lt l 0
  by_cases g0 : (l.getD 0 0).toNat < 128
  · exact first_low A c l B w h h0 g0
  by_cases g2 : 194 ≤ (l.getD 0 0).toNat ∧ (l.getD 0 0).toNat ≤ 223
  · exact first_2 A c l B w h hc h0 g2.1 g2.2
  by_cases g3 : 224 ≤ (l.getD 0 0).toNat ∧ (l.getD 0 0).toNat ≤ 239
  · exact first_3 A c l B w h hc h0 g3.1 g3.2
  by_cases g4 : 240 ≤ (l.getD 0 0).toNat ∧ (l.getD 0 0).toNat ≤ 244
  · exact first_4 A c l B w h hc h0 g4.1 g4.2
  · refine first_no A c l B w h h0 (by omega) ?_
    unfold leadN
    rw [if_neg g2, if_neg g3, if_neg g4]
end Go.Proofs.YtancmlapnhccdaaDoor
