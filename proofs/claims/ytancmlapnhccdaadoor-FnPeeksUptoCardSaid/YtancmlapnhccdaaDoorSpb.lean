/- spec.first: the first rune as UTF-8 has it. -/
import Derived.Test.YtancmlapnhccdaaDoorSpa
namespace Go.Proofs.YtancmlapnhccdaaDoor
open Go.RowKit

/-- where the part of a slice from place k on begins -/
def cutS (A : Option Addr) (c k : Nat) : Option Addr := if c = k then A else A.map (·.add k)
theorem slice_from (A : Option Addr) (n c k : Nat) (h1 : k ≤ n) (h2 : n ≤ c) (hA : A = none → c = 0) (w : World) :
    (Instr.slice 25 (.slice A n c) (some (.int .i64 (k : Nat))) none none).run Tryd.prog w = .ok (.slice (cutS A c k) (n - k) (c - k)) w := by
  have i1 : (k : Int) ≤ (n : Int) := by omega
  by_cases h : c = k
  · have : n = k := by omega
    subst this
    subst h
    rcases A with _ | ad
    · have := hA rfl
      subst this
      simp [go_sem, cutS]
    · simp [go_sem, cutS]
  · rcases A with _ | ad
    · have := hA rfl
      omega
    · simp [go_sem, cutS, i1, h]
theorem slice_part (ad : Addr) (n c lo hi : Nat) (h1 : lo ≤ hi) (h2 : hi ≤ c) (w : World) :
    (Instr.slice 25 (.slice (some ad) n c) (some (.int .i64 (lo : Nat))) (some (.int .i64 (hi : Nat))) none).run Tryd.prog w = .ok (.slice (cutS (some ad) c lo) (hi - lo) (c - lo)) w := by
  have i1 : (lo : Int) ≤ (hi : Int) := by omega
  have i2 : (hi : Int) ≤ (c : Int) := by omega
  by_cases h : c = lo
  · have : hi = lo := by omega
    subst this
    subst h
    simp [go_sem, cutS]
  · simp [go_sem, cutS, i1, i2, h]

/-! ### plain -/
def accY (x : Nat) (ys : List UInt8) : Nat := ys.foldl (fun a y => a * 64 + (y.toNat - 128)) x
def Cont (y : UInt8) : Prop := 128 ≤ y.toNat ∧ y.toNat ≤ 191
/-- what spec.first makes of a lead byte: so many bytes, the least rune, the lead's part -/
def leadN (b : Nat) : Nat × Nat × Nat :=
  if 194 ≤ b ∧ b ≤ 223 then (2, 128, b - 192) else if 224 ≤ b ∧ b ≤ 239 then (3, 2048, b - 224) else if 240 ≤ b ∧ b ≤ 244 then (4, 65536, b - 240) else (0, 0, b)
theorem getD_lt (l : List UInt8) (i : Nat) : (l.getD i 0).toNat < 256 := u8lt _
theorem first_ascii {l : List UInt8} (h : (l.getD 0 0).toNat < 128) : decM l = ((l.getD 0 0).toNat, 1) := by
  unfold decM Go.Lib.decodeN
  rw [if_pos h]
theorem first_none {l : List UInt8} (h0 : 128 ≤ (l.getD 0 0).toNat) (h : (leadN (l.getD 0 0).toNat).1 = 0 ∨ l.length < (leadN (l.getD 0 0).toNat).1) : decM l = (65533, 1) := by
  have hb := getD_lt l 0
  have h1 := getD_lt l 1
  have h2 := getD_lt l 2
  have h3 := getD_lt l 3
  unfold leadN at h
  unfold decM Go.Lib.decodeN
  generalize (l.getD 0 0).toNat = b0 at *
  generalize (l.getD 1 0).toNat = b1 at *
  generalize (l.getD 2 0).toNat = b2 at *
  generalize (l.getD 3 0).toNat = b3 at *
  generalize l.length = n at *
  repeat' split at h
  all_goals simp only at h
  all_goals repeat' split
  all_goals first | rfl | (exfalso; omega)
theorem tail_get (l : List UInt8) (n i : Nat) (h : i < n) : ((l.drop 1).take n).getD i 0 = l.getD (i + 1) 0 := by
  simp [List.getD, h]
theorem tail_len (l : List UInt8) (n : Nat) (h : n + 1 ≤ l.length) : ((l.drop 1).take n).length = n := by simp; omega
theorem cont_at {l : List UInt8} {n : Nat} (hl : n + 1 ≤ l.length) (h : ∀ y ∈ (l.drop 1).take n, Cont y) {i : Nat} (hi : i < n) : 128 ≤ (l.getD (i + 1) 0).toNat ∧ (l.getD (i + 1) 0).toNat ≤ 191 := by
  have hl' := tail_len l n hl
  have := h (((l.drop 1).take n)[i]'(by omega)) (List.getElem_mem _)
  have e : ((l.drop 1).take n)[i]'(by omega) = l.getD (i + 1) 0 := by
    have q := List.getElem?_eq_getElem (l := (l.drop 1).take n) (i := i) (by omega)
    rw [List.getElem?_take, if_pos hi, List.getElem?_drop] at q
    rw [List.getD_eq_getElem?_getD, Nat.add_comm i 1, q]
    rfl
  rw [e] at this
  exact this
/-- a byte that goes on nothing -/
theorem first_bad {l : List UInt8} {n : Nat} (hn : (leadN (l.getD 0 0).toNat).1 = n + 1) (hl : n + 1 ≤ l.length) {i : Nat} (hi : i < n) (hb : (l.getD (i + 1) 0).toNat < 128 ∨ 191 < (l.getD (i + 1) 0).toNat) : decM l = (65533, 1) := by
  have h0 := getD_lt l 0
  have h1 := getD_lt l 1
  have h2 := getD_lt l 2
  have h3 := getD_lt l 3
  unfold leadN at hn
  unfold decM Go.Lib.decodeN
  have hb' : (i = 0 ∧ ((l.getD 1 0).toNat < 128 ∨ 191 < (l.getD 1 0).toNat)) ∨ (i = 1 ∧ ((l.getD 2 0).toNat < 128 ∨ 191 < (l.getD 2 0).toNat)) ∨ (i = 2 ∧ ((l.getD 3 0).toNat < 128 ∨ 191 < (l.getD 3 0).toNat)) := by
    have h4 : n + 1 ≤ 4 := by rw [← hn]; repeat' split
                              all_goals simp
    rcases i with _ | _ | _ | i
    · exact .inl ⟨rfl, hb⟩
    · exact .inr (.inl ⟨rfl, hb⟩)
    · exact .inr (.inr ⟨rfl, hb⟩)
    · omega
  clear hb
  generalize (l.getD 0 0).toNat = b0 at *
  generalize (l.getD 1 0).toNat = b1 at *
  generalize (l.getD 2 0).toNat = b2 at *
  generalize (l.getD 3 0).toNat = b3 at *
  generalize l.length = m at *
  repeat' split at hn
  all_goals simp only at hn
  all_goals repeat' split
  all_goals first | rfl | (exfalso; omega)
def okR (low x : Nat) : Prop := low ≤ x ∧ x ≤ 1114111 ∧ ¬ (55296 ≤ x ∧ x ≤ 57343)
instance (low x : Nat) : Decidable (okR low x) := by unfold okR; infer_instance
theorem acc1 (l : List UInt8) (x : Nat) (h : 2 ≤ l.length) : accY x ((l.drop 1).take 1) = x * 64 + ((l.getD 1 0).toNat - 128) := by
  match l, h with
  | [_], h => simp at h
  | a :: b :: l, _ => simp [accY]
theorem acc2 (l : List UInt8) (x : Nat) (h : 3 ≤ l.length) : accY x ((l.drop 1).take 2) = (x * 64 + ((l.getD 1 0).toNat - 128)) * 64 + ((l.getD 2 0).toNat - 128) := by
  match l, h with
  | [_], h => simp at h
  | [_, _], h => simp at h
  | a :: b :: c :: l, _ => simp [accY]
theorem acc3 (l : List UInt8) (x : Nat) (h : 4 ≤ l.length) : accY x ((l.drop 1).take 3) = ((x * 64 + ((l.getD 1 0).toNat - 128)) * 64 + ((l.getD 2 0).toNat - 128)) * 64 + ((l.getD 3 0).toNat - 128) := by
  match l, h with
  | [_], h => simp at h
  | [_, _], h => simp at h
  | [_, _, _], h => simp at h
  | a :: b :: c :: d :: l, _ => simp [accY]
set_option maxRecDepth 100000 in
set_option maxRecDepth 100000 in
set_option maxHeartbeats 1000000 in
/-- all bytes go on -/
theorem first_all {l : List UInt8} {n low x : Nat} (hn : leadN (l.getD 0 0).toNat = (n + 1, low, x)) (hl : n + 1 ≤ l.length) (hc : ∀ y ∈ (l.drop 1).take n, Cont y) (h1n : 1 ≤ n) :
    decM l = if okR low (accY x ((l.drop 1).take n)) then (accY x ((l.drop 1).take n), n + 1) else (65533, 1) := by
  have h0 := getD_lt l 0
  unfold leadN at hn
  have hcl : (194 ≤ (l.getD 0 0).toNat ∧ (l.getD 0 0).toNat ≤ 223 ∧ n = 1 ∧ low = 128 ∧ x = (l.getD 0 0).toNat - 192) ∨ (224 ≤ (l.getD 0 0).toNat ∧ (l.getD 0 0).toNat ≤ 239 ∧ n = 2 ∧ low = 2048 ∧ x = (l.getD 0 0).toNat - 224) ∨ (240 ≤ (l.getD 0 0).toNat ∧ (l.getD 0 0).toNat ≤ 244 ∧ n = 3 ∧ low = 65536 ∧ x = (l.getD 0 0).toNat - 240) := by
    generalize (l.getD 0 0).toNat = b at *
    by_cases a1 : 194 ≤ b ∧ b ≤ 223
    · rw [if_pos a1] at hn
      simp only [Prod.mk.injEq] at hn
      omega
    rw [if_neg a1] at hn
    by_cases a2 : 224 ≤ b ∧ b ≤ 239
    · rw [if_pos a2] at hn
      simp only [Prod.mk.injEq] at hn
      omega
    rw [if_neg a2] at hn
    by_cases a3 : 240 ≤ b ∧ b ≤ 244
    · rw [if_pos a3] at hn
      simp only [Prod.mk.injEq] at hn
      omega
    rw [if_neg a3] at hn
    simp only [Prod.mk.injEq] at hn
    omega
  clear hn
  rcases hcl with ⟨g1, g2, rfl, rfl, rfl⟩ | ⟨g1, g2, rfl, rfl, rfl⟩ | ⟨g1, g2, rfl, rfl, rfl⟩
  · have k1 := cont_at hl hc (i := 0) (by omega)
    rw [acc1 l _ hl]
    clear hc
    unfold decM Go.Lib.decodeN
    generalize (l.getD 0 0).toNat = b0 at *
    generalize (l.getD 1 0).toNat = b1 at *
    generalize (l.getD 2 0).toNat = b2 at *
    generalize (l.getD 3 0).toNat = b3 at *
    generalize l.length = m at *
    rw [if_neg (by omega), if_pos (by omega)]
    split
    · rename_i hq
      rw [if_pos (by unfold okR; omega)]
      exact Prod.ext (by simp only; omega) rfl
    · rename_i hq
      rw [if_neg (by unfold okR; omega)]
  · have k1 := cont_at hl hc (i := 0) (by omega)
    have k2 := cont_at hl hc (i := 1) (by omega)
    rw [acc2 l _ hl]
    clear hc
    unfold decM Go.Lib.decodeN
    generalize (l.getD 0 0).toNat = b0 at *
    generalize (l.getD 1 0).toNat = b1 at *
    generalize (l.getD 2 0).toNat = b2 at *
    generalize (l.getD 3 0).toNat = b3 at *
    generalize l.length = m at *
    rw [if_neg (by omega), if_neg (by omega), if_pos (by omega)]
    split
    · rename_i hq
      rw [if_pos (by unfold okR; omega)]
      exact Prod.ext (by simp only; omega) rfl
    · rename_i hq
      rw [if_neg (by unfold okR; omega)]
  · have k1 := cont_at hl hc (i := 0) (by omega)
    have k2 := cont_at hl hc (i := 1) (by omega)
    have k3 := cont_at hl hc (i := 2) (by omega)
    rw [acc3 l _ hl]
    clear hc
    unfold decM Go.Lib.decodeN
    generalize (l.getD 0 0).toNat = b0 at *
    generalize (l.getD 1 0).toNat = b1 at *
    generalize (l.getD 2 0).toNat = b2 at *
    generalize (l.getD 3 0).toNat = b3 at *
    generalize l.length = m at *
    rw [if_neg (by omega), if_neg (by omega), if_neg (by omega), if_pos (by omega)]
    split
    · rename_i hq
      rw [if_pos (by unfold okR; omega)]
      exact Prod.ext (by simp only; omega) rfl
    · rename_i hq
      rw [if_neg (by unfold okR; omega)]
theorem acc_step (x : Nat) (ys : List UInt8) (i : Nat) (h : i < ys.length) : accY x (ys.take (i + 1)) = accY x (ys.take i) * 64 + (ys[i].toNat - 128) := by
  unfold accY
  rw [List.take_add_one, List.getElem?_eq_getElem h, Option.toList_some, List.foldl_append]
  rfl
/-! ### the walk -/
def First40 (l : List UInt8) (w : World) (e : Ending) (w' : World) : Prop := e = .returned (.tuple #[.int .i64 (((decM l).2 : Nat) : Int), .int .i64 (((decM l).1 : Nat) : Int)]) ∧ w = w'
theorem head_cell {w : World} {B : Nat} {A : Option Addr} {l : List UInt8} (h : Reads w B 1 A l.length (bvs l)) (h0 : l ≠ []) : ∃ ad, A = some ad ∧ w.cell? ad = some (.int .u8 (((l.getD 0 0).toNat : Nat) : Int)) := by
  have hp : 0 < l.length := List.length_pos_iff.2 h0
  obtain ⟨ad, u, e, _, hu, hc⟩ := h.at_ hp
  refine ⟨ad, e, ?_⟩
  rw [bvs_get, List.getElem?_eq_getElem hp] at hu
  simp only [Option.map_some, Option.some.injEq] at hu
  subst hu
  have e0 : ad.add 0 = ad := by unfold Addr.add; simp
  rw [e0] at hc
  rw [hc]
  simp [bv, List.getD, List.getElem?_eq_getElem hp]
set_option maxRecDepth 100000 in
set_option maxHeartbeats 1000000 in
theorem first_low (A : Option Addr) (c : Nat) (l : List UInt8) (B : Nat) (w : World) (h : Reads w B 1 A l.length (bvs l)) (h0 : l ≠ []) (hb : (l.getD 0 0).toNat < 128) :
    Calls Tryd.prog 40 #[.slice A l.length c] w (First40 l w) := by
  obtain ⟨ad, rfl, hc⟩ := head_cell h h0
  have hl : 0 < l.length := List.length_pos_iff.2 h0
  have H := Lib.hid (first_ascii hb)
  clear h h0
  generalize (l.getD 0 0).toNat = b at *
  go_enter Tryd.func40, Tryd.ntmps40
  go_wp2_with fail
  go_ret2
  refine ⟨?_, rfl⟩
  rw [H.out]
  rfl
set_option maxRecDepth 100000 in
set_option maxHeartbeats 1000000 in
theorem first_no (A : Option Addr) (c : Nat) (l : List UInt8) (B : Nat) (w : World) (h : Reads w B 1 A l.length (bvs l)) (h0 : l ≠ []) (h1 : 128 ≤ (l.getD 0 0).toNat) (hb : (leadN (l.getD 0 0).toNat).1 = 0) :
    Calls Tryd.prog 40 #[.slice A l.length c] w (First40 l w) := by
  obtain ⟨ad, rfl, hc⟩ := head_cell h h0
  have hl : 0 < l.length := List.length_pos_iff.2 h0
  have H := Lib.hid (first_none h1 (.inl hb))
  have h256 := getD_lt l 0
  clear h h0
  generalize (l.getD 0 0).toNat = b at *
  have hcl : (128 ≤ b ∧ b < 194) ∨ 244 < b := by
    unfold leadN at hb
    by_cases a1 : 194 ≤ b ∧ b ≤ 223
    · rw [if_pos a1] at hb; simp at hb
    rw [if_neg a1] at hb
    by_cases a2 : 224 ≤ b ∧ b ≤ 239
    · rw [if_pos a2] at hb; simp at hb
    rw [if_neg a2] at hb
    by_cases a3 : 240 ≤ b ∧ b ≤ 244
    · rw [if_pos a3] at hb; simp at hb
    omega
  clear hb
  rcases hcl with ⟨g1, g2⟩ | g1
  · go_enter Tryd.func40, Tryd.ntmps40
    go_wp2_with fail
    go_ret2
    refine ⟨?_, rfl⟩
    rw [H.out]
    rfl
  · go_enter Tryd.func40, Tryd.ntmps40
    go_wp2_with fail
    go_ret2
    refine ⟨?_, rfl⟩
    rw [H.out]
    rfl
end Go.Proofs.YtancmlapnhccdaaDoor
