/- unicode/utf8.FullRune: whether bytes begin with a whole rune, or with what is no rune (printed by gen_full.py). -/
import Derived.Test.YtancmlapnhccdaaDoorWrn
import Derived.Test.YtancmlapnhccdaaDoorRmm
import Derived.Test.YtancmlapnhccdaaDoorWtt
namespace Go.Proofs.YtancmlapnhccdaaDoor
open Go.RowKit

/-- FullRune's answer; new blocks at most -/
def Full65 (b : Bool) (w : World) (e : Ending) (w' : World) : Prop := e = .returned (.bool b) ∧ Below w.heap.size w w'

theorem row_cell {w : World} {g o : Nat} {p : List UInt8} (h : RowAt w g o p) (j : Nat) (hj : j < p.length) : w.cell? ⟨g, o + j, none⟩ = some (.int .u8 ((p.getD j 0).toNat : Int)) := by
  have := h j (p.getD j 0) (by simp [List.getD, List.getElem?_eq_getElem hj])
  exact this

set_option maxHeartbeats 1000000 in
theorem full_none (g o c : Nat) (w : World) : Calls Tryd.prog 65 #[.slice (some ⟨g, o, none⟩) 0 c] w (Full65 false w) := by
  go_enter Tryd.func65, Tryd.ntmps65
  go_wp2_with fail
  go_ret
  exact ⟨rfl, Below.refl _ _⟩

set_option maxHeartbeats 1000000 in
/-- the first byte is a whole rune, or none -/
theorem full_easy (g o n c b0 x : Nat) (w : World) (hn : 0 < n) (h0 : w.cell? ⟨g, o, none⟩ = some (.int .u8 (b0 : Int))) (hb : b0 < 256) (ht : w.cell? ⟨9, b0, none⟩ = some (.int .u8 (x : Int))) (hx : x = 240 ∨ x = 241) :
    Calls Tryd.prog 65 #[.slice (some ⟨g, o, none⟩) n c] w (Full65 true w) := by
  have hnz : ((n : Int) == 0) = false := by simp; omega
  have hn1 : (0 : Int) < (n : Int) := by omega
  rcases hx with rfl | rfl
  · go_enter Tryd.func65, Tryd.ntmps65
    go_wp2_with fail
    go_ret
    exact ⟨rfl, Below.refl _ _⟩
  · have hn2 : (1 : Int) ≤ (n : Int) := by omega
    go_enter Tryd.func65, Tryd.ntmps65
    go_wp2_with fail
    go_ret
    exact ⟨rfl, Below.refl _ _⟩

/-! ### the entry 2 -/
set_option maxHeartbeats 1000000 in
theorem full_2_long (g o n c b0 : Nat) (w : World) (hn : 2 ≤ n) (h0 : w.cell? ⟨g, o, none⟩ = some (.int .u8 (b0 : Int))) (hb : b0 < 256) (ht : w.cell? ⟨9, b0, none⟩ = some (.int .u8 2)) :
    Calls Tryd.prog 65 #[.slice (some ⟨g, o, none⟩) n c] w (Full65 true w) := by
  have hnz : ((n : Int) == 0) = false := by simp; omega
  have hn1 : (0 : Int) < (n : Int) := by omega
  have hn2 : (2 : Int) ≤ (n : Int) := by omega
  go_enter Tryd.func65, Tryd.ntmps65
  go_wp2_with fail
  go_ret
  exact ⟨rfl, Below.refl _ _⟩
set_option maxHeartbeats 1000000 in
theorem full_2_1 (g o c b0 : Nat) (w : World) (h0 : w.cell? ⟨g, o, none⟩ = some (.int .u8 (b0 : Int))) (hb : b0 < 256) (ht : w.cell? ⟨9, b0, none⟩ = some (.int .u8 2)) (hlo : w.cell? ⟨10, 0, none⟩ = some (.int .u8 128)) (hhi : w.cell? ⟨10, 1, none⟩ = some (.int .u8 191)) :
    Calls Tryd.prog 65 #[.slice (some ⟨g, o, none⟩) 1 c] w (Full65 false w) := by
  go_enter Tryd.func65, Tryd.ntmps65
  go_wp2_with fail
  go_quiet (fail)
  go_wp2_with fail
  go_ret
  exact ⟨rfl, (fun h => ⟨h.os, h.tape, h.output, h.size, h.block⟩ : ∀ {a b : World}, Below a.heap.size a b → Below a.heap.size a (b.drewN nq)) ((Below.refl _ _).alloc (Nat.le_refl _) _)⟩

/-! ### the entry 19 -/
set_option maxHeartbeats 1000000 in
theorem full_19_long (g o n c b0 : Nat) (w : World) (hn : 3 ≤ n) (h0 : w.cell? ⟨g, o, none⟩ = some (.int .u8 (b0 : Int))) (hb : b0 < 256) (ht : w.cell? ⟨9, b0, none⟩ = some (.int .u8 19)) :
    Calls Tryd.prog 65 #[.slice (some ⟨g, o, none⟩) n c] w (Full65 true w) := by
  have hnz : ((n : Int) == 0) = false := by simp; omega
  have hn1 : (0 : Int) < (n : Int) := by omega
  have hn2 : (3 : Int) ≤ (n : Int) := by omega
  go_enter Tryd.func65, Tryd.ntmps65
  go_wp2_with fail
  go_ret
  exact ⟨rfl, Below.refl _ _⟩
set_option maxHeartbeats 1000000 in
theorem full_19_1 (g o c b0 : Nat) (w : World) (h0 : w.cell? ⟨g, o, none⟩ = some (.int .u8 (b0 : Int))) (hb : b0 < 256) (ht : w.cell? ⟨9, b0, none⟩ = some (.int .u8 19)) (hlo : w.cell? ⟨10, 2, none⟩ = some (.int .u8 160)) (hhi : w.cell? ⟨10, 3, none⟩ = some (.int .u8 191)) :
    Calls Tryd.prog 65 #[.slice (some ⟨g, o, none⟩) 1 c] w (Full65 false w) := by
  go_enter Tryd.func65, Tryd.ntmps65
  go_wp2_with fail
  go_quiet (fail)
  go_wp2_with fail
  go_ret
  exact ⟨rfl, (fun h => ⟨h.os, h.tape, h.output, h.size, h.block⟩ : ∀ {a b : World}, Below a.heap.size a b → Below a.heap.size a (b.drewN nq)) ((Below.refl _ _).alloc (Nat.le_refl _) _)⟩
set_option maxHeartbeats 1000000 in
theorem full_19_bad1a_2 (g o c b0 b1 : Nat) (w : World) (h0 : w.cell? ⟨g, o, none⟩ = some (.int .u8 (b0 : Int))) (h1 : w.cell? ⟨g, o + 1, none⟩ = some (.int .u8 (b1 : Int))) (hb : b0 < 256) (ht : w.cell? ⟨9, b0, none⟩ = some (.int .u8 19)) (hlo : w.cell? ⟨10, 2, none⟩ = some (.int .u8 160)) (hhi : w.cell? ⟨10, 3, none⟩ = some (.int .u8 191)) (hb1 : b1 < 160) :
    Calls Tryd.prog 65 #[.slice (some ⟨g, o, none⟩) 2 c] w (Full65 true w) := by
  have e1 := fun ob => (World.cell?_alloc_lt w ob ⟨g, o + 1, none⟩ (World.block_lt_of_cell? w _ h1)).trans h1
  have d1 : decide ((b1 : Int) < 160) = true := by simp; omega
  go_enter Tryd.func65, Tryd.ntmps65
  go_wp2_with fail
  go_quiet (fail)
  go_wp2_with fail
  go_ret
  exact ⟨rfl, (fun h => ⟨h.os, h.tape, h.output, h.size, h.block⟩ : ∀ {a b : World}, Below a.heap.size a b → Below a.heap.size a (b.drewN nq)) ((Below.refl _ _).alloc (Nat.le_refl _) _)⟩
set_option maxHeartbeats 1000000 in
theorem full_19_bad1b_2 (g o c b0 b1 : Nat) (w : World) (h0 : w.cell? ⟨g, o, none⟩ = some (.int .u8 (b0 : Int))) (h1 : w.cell? ⟨g, o + 1, none⟩ = some (.int .u8 (b1 : Int))) (hb : b0 < 256) (ht : w.cell? ⟨9, b0, none⟩ = some (.int .u8 19)) (hlo : w.cell? ⟨10, 2, none⟩ = some (.int .u8 160)) (hhi : w.cell? ⟨10, 3, none⟩ = some (.int .u8 191)) (hb2 : 191 < b1) :
    Calls Tryd.prog 65 #[.slice (some ⟨g, o, none⟩) 2 c] w (Full65 true w) := by
  have e1 := fun ob => (World.cell?_alloc_lt w ob ⟨g, o + 1, none⟩ (World.block_lt_of_cell? w _ h1)).trans h1
  have d1 : decide ((b1 : Int) < 160) = false := by simp; omega
  have d2 : decide ((191 : Int) < (b1 : Int)) = true := by simp; omega
  go_enter Tryd.func65, Tryd.ntmps65
  go_wp2_with fail
  go_quiet (fail)
  go_wp2_with fail
  go_ret
  exact ⟨rfl, (fun h => ⟨h.os, h.tape, h.output, h.size, h.block⟩ : ∀ {a b : World}, Below a.heap.size a b → Below a.heap.size a (b.drewN nq)) ((Below.refl _ _).alloc (Nat.le_refl _) _)⟩
set_option maxHeartbeats 1000000 in
theorem full_19_2 (g o c b0 b1 : Nat) (w : World) (h0 : w.cell? ⟨g, o, none⟩ = some (.int .u8 (b0 : Int))) (h1 : w.cell? ⟨g, o + 1, none⟩ = some (.int .u8 (b1 : Int))) (hb : b0 < 256) (ht : w.cell? ⟨9, b0, none⟩ = some (.int .u8 19)) (hlo : w.cell? ⟨10, 2, none⟩ = some (.int .u8 160)) (hhi : w.cell? ⟨10, 3, none⟩ = some (.int .u8 191)) (hb1 : ¬ b1 < 160) (hb2 : ¬ 191 < b1) :
    Calls Tryd.prog 65 #[.slice (some ⟨g, o, none⟩) 2 c] w (Full65 false w) := by
  have e1 := fun ob => (World.cell?_alloc_lt w ob ⟨g, o + 1, none⟩ (World.block_lt_of_cell? w _ h1)).trans h1
  have d1 : decide ((b1 : Int) < 160) = false := by simp; omega
  have d2 : decide ((191 : Int) < (b1 : Int)) = false := by simp; omega
  go_enter Tryd.func65, Tryd.ntmps65
  go_wp2_with fail
  go_quiet (fail)
  go_wp2_with fail
  go_ret
  exact ⟨rfl, (fun h => ⟨h.os, h.tape, h.output, h.size, h.block⟩ : ∀ {a b : World}, Below a.heap.size a b → Below a.heap.size a (b.drewN nq)) ((Below.refl _ _).alloc (Nat.le_refl _) _)⟩

/-! ### the entry 3 -/
set_option maxHeartbeats 1000000 in
theorem full_3_long (g o n c b0 : Nat) (w : World) (hn : 3 ≤ n) (h0 : w.cell? ⟨g, o, none⟩ = some (.int .u8 (b0 : Int))) (hb : b0 < 256) (ht : w.cell? ⟨9, b0, none⟩ = some (.int .u8 3)) :
    Calls Tryd.prog 65 #[.slice (some ⟨g, o, none⟩) n c] w (Full65 true w) := by
  have hnz : ((n : Int) == 0) = false := by simp; omega
  have hn1 : (0 : Int) < (n : Int) := by omega
  have hn2 : (3 : Int) ≤ (n : Int) := by omega
  go_enter Tryd.func65, Tryd.ntmps65
  go_wp2_with fail
  go_ret
  exact ⟨rfl, Below.refl _ _⟩
set_option maxHeartbeats 1000000 in
theorem full_3_1 (g o c b0 : Nat) (w : World) (h0 : w.cell? ⟨g, o, none⟩ = some (.int .u8 (b0 : Int))) (hb : b0 < 256) (ht : w.cell? ⟨9, b0, none⟩ = some (.int .u8 3)) (hlo : w.cell? ⟨10, 0, none⟩ = some (.int .u8 128)) (hhi : w.cell? ⟨10, 1, none⟩ = some (.int .u8 191)) :
    Calls Tryd.prog 65 #[.slice (some ⟨g, o, none⟩) 1 c] w (Full65 false w) := by
  go_enter Tryd.func65, Tryd.ntmps65
  go_wp2_with fail
  go_quiet (fail)
  go_wp2_with fail
  go_ret
  exact ⟨rfl, (fun h => ⟨h.os, h.tape, h.output, h.size, h.block⟩ : ∀ {a b : World}, Below a.heap.size a b → Below a.heap.size a (b.drewN nq)) ((Below.refl _ _).alloc (Nat.le_refl _) _)⟩
set_option maxHeartbeats 1000000 in
theorem full_3_bad1a_2 (g o c b0 b1 : Nat) (w : World) (h0 : w.cell? ⟨g, o, none⟩ = some (.int .u8 (b0 : Int))) (h1 : w.cell? ⟨g, o + 1, none⟩ = some (.int .u8 (b1 : Int))) (hb : b0 < 256) (ht : w.cell? ⟨9, b0, none⟩ = some (.int .u8 3)) (hlo : w.cell? ⟨10, 0, none⟩ = some (.int .u8 128)) (hhi : w.cell? ⟨10, 1, none⟩ = some (.int .u8 191)) (hb1 : b1 < 128) :
    Calls Tryd.prog 65 #[.slice (some ⟨g, o, none⟩) 2 c] w (Full65 true w) := by
  have e1 := fun ob => (World.cell?_alloc_lt w ob ⟨g, o + 1, none⟩ (World.block_lt_of_cell? w _ h1)).trans h1
  have d1 : decide ((b1 : Int) < 128) = true := by simp; omega
  go_enter Tryd.func65, Tryd.ntmps65
  go_wp2_with fail
  go_quiet (fail)
  go_wp2_with fail
  go_ret
  exact ⟨rfl, (fun h => ⟨h.os, h.tape, h.output, h.size, h.block⟩ : ∀ {a b : World}, Below a.heap.size a b → Below a.heap.size a (b.drewN nq)) ((Below.refl _ _).alloc (Nat.le_refl _) _)⟩
set_option maxHeartbeats 1000000 in
theorem full_3_bad1b_2 (g o c b0 b1 : Nat) (w : World) (h0 : w.cell? ⟨g, o, none⟩ = some (.int .u8 (b0 : Int))) (h1 : w.cell? ⟨g, o + 1, none⟩ = some (.int .u8 (b1 : Int))) (hb : b0 < 256) (ht : w.cell? ⟨9, b0, none⟩ = some (.int .u8 3)) (hlo : w.cell? ⟨10, 0, none⟩ = some (.int .u8 128)) (hhi : w.cell? ⟨10, 1, none⟩ = some (.int .u8 191)) (hb2 : 191 < b1) :
    Calls Tryd.prog 65 #[.slice (some ⟨g, o, none⟩) 2 c] w (Full65 true w) := by
  have e1 := fun ob => (World.cell?_alloc_lt w ob ⟨g, o + 1, none⟩ (World.block_lt_of_cell? w _ h1)).trans h1
  have d1 : decide ((b1 : Int) < 128) = false := by simp; omega
  have d2 : decide ((191 : Int) < (b1 : Int)) = true := by simp; omega
  go_enter Tryd.func65, Tryd.ntmps65
  go_wp2_with fail
  go_quiet (fail)
  go_wp2_with fail
  go_ret
  exact ⟨rfl, (fun h => ⟨h.os, h.tape, h.output, h.size, h.block⟩ : ∀ {a b : World}, Below a.heap.size a b → Below a.heap.size a (b.drewN nq)) ((Below.refl _ _).alloc (Nat.le_refl _) _)⟩
set_option maxHeartbeats 1000000 in
theorem full_3_2 (g o c b0 b1 : Nat) (w : World) (h0 : w.cell? ⟨g, o, none⟩ = some (.int .u8 (b0 : Int))) (h1 : w.cell? ⟨g, o + 1, none⟩ = some (.int .u8 (b1 : Int))) (hb : b0 < 256) (ht : w.cell? ⟨9, b0, none⟩ = some (.int .u8 3)) (hlo : w.cell? ⟨10, 0, none⟩ = some (.int .u8 128)) (hhi : w.cell? ⟨10, 1, none⟩ = some (.int .u8 191)) (hb1 : ¬ b1 < 128) (hb2 : ¬ 191 < b1) :
    Calls Tryd.prog 65 #[.slice (some ⟨g, o, none⟩) 2 c] w (Full65 false w) := by
  have e1 := fun ob => (World.cell?_alloc_lt w ob ⟨g, o + 1, none⟩ (World.block_lt_of_cell? w _ h1)).trans h1
  have d1 : decide ((b1 : Int) < 128) = false := by simp; omega
  have d2 : decide ((191 : Int) < (b1 : Int)) = false := by simp; omega
  go_enter Tryd.func65, Tryd.ntmps65
  go_wp2_with fail
  go_quiet (fail)
  go_wp2_with fail
  go_ret
  exact ⟨rfl, (fun h => ⟨h.os, h.tape, h.output, h.size, h.block⟩ : ∀ {a b : World}, Below a.heap.size a b → Below a.heap.size a (b.drewN nq)) ((Below.refl _ _).alloc (Nat.le_refl _) _)⟩

/-! ### the entry 35 -/
set_option maxHeartbeats 1000000 in
theorem full_35_long (g o n c b0 : Nat) (w : World) (hn : 3 ≤ n) (h0 : w.cell? ⟨g, o, none⟩ = some (.int .u8 (b0 : Int))) (hb : b0 < 256) (ht : w.cell? ⟨9, b0, none⟩ = some (.int .u8 35)) :
    Calls Tryd.prog 65 #[.slice (some ⟨g, o, none⟩) n c] w (Full65 true w) := by
  have hnz : ((n : Int) == 0) = false := by simp; omega
  have hn1 : (0 : Int) < (n : Int) := by omega
  have hn2 : (3 : Int) ≤ (n : Int) := by omega
  go_enter Tryd.func65, Tryd.ntmps65
  go_wp2_with fail
  go_ret
  exact ⟨rfl, Below.refl _ _⟩
set_option maxHeartbeats 1000000 in
theorem full_35_1 (g o c b0 : Nat) (w : World) (h0 : w.cell? ⟨g, o, none⟩ = some (.int .u8 (b0 : Int))) (hb : b0 < 256) (ht : w.cell? ⟨9, b0, none⟩ = some (.int .u8 35)) (hlo : w.cell? ⟨10, 4, none⟩ = some (.int .u8 128)) (hhi : w.cell? ⟨10, 5, none⟩ = some (.int .u8 159)) :
    Calls Tryd.prog 65 #[.slice (some ⟨g, o, none⟩) 1 c] w (Full65 false w) := by
  go_enter Tryd.func65, Tryd.ntmps65
  go_wp2_with fail
  go_quiet (fail)
  go_wp2_with fail
  go_ret
  exact ⟨rfl, (fun h => ⟨h.os, h.tape, h.output, h.size, h.block⟩ : ∀ {a b : World}, Below a.heap.size a b → Below a.heap.size a (b.drewN nq)) ((Below.refl _ _).alloc (Nat.le_refl _) _)⟩
set_option maxHeartbeats 1000000 in
theorem full_35_bad1a_2 (g o c b0 b1 : Nat) (w : World) (h0 : w.cell? ⟨g, o, none⟩ = some (.int .u8 (b0 : Int))) (h1 : w.cell? ⟨g, o + 1, none⟩ = some (.int .u8 (b1 : Int))) (hb : b0 < 256) (ht : w.cell? ⟨9, b0, none⟩ = some (.int .u8 35)) (hlo : w.cell? ⟨10, 4, none⟩ = some (.int .u8 128)) (hhi : w.cell? ⟨10, 5, none⟩ = some (.int .u8 159)) (hb1 : b1 < 128) :
    Calls Tryd.prog 65 #[.slice (some ⟨g, o, none⟩) 2 c] w (Full65 true w) := by
  have e1 := fun ob => (World.cell?_alloc_lt w ob ⟨g, o + 1, none⟩ (World.block_lt_of_cell? w _ h1)).trans h1
  have d1 : decide ((b1 : Int) < 128) = true := by simp; omega
  go_enter Tryd.func65, Tryd.ntmps65
  go_wp2_with fail
  go_quiet (fail)
  go_wp2_with fail
  go_ret
  exact ⟨rfl, (fun h => ⟨h.os, h.tape, h.output, h.size, h.block⟩ : ∀ {a b : World}, Below a.heap.size a b → Below a.heap.size a (b.drewN nq)) ((Below.refl _ _).alloc (Nat.le_refl _) _)⟩
set_option maxHeartbeats 1000000 in
theorem full_35_bad1b_2 (g o c b0 b1 : Nat) (w : World) (h0 : w.cell? ⟨g, o, none⟩ = some (.int .u8 (b0 : Int))) (h1 : w.cell? ⟨g, o + 1, none⟩ = some (.int .u8 (b1 : Int))) (hb : b0 < 256) (ht : w.cell? ⟨9, b0, none⟩ = some (.int .u8 35)) (hlo : w.cell? ⟨10, 4, none⟩ = some (.int .u8 128)) (hhi : w.cell? ⟨10, 5, none⟩ = some (.int .u8 159)) (hb2 : 159 < b1) :
    Calls Tryd.prog 65 #[.slice (some ⟨g, o, none⟩) 2 c] w (Full65 true w) := by
  have e1 := fun ob => (World.cell?_alloc_lt w ob ⟨g, o + 1, none⟩ (World.block_lt_of_cell? w _ h1)).trans h1
  have d1 : decide ((b1 : Int) < 128) = false := by simp; omega
  have d2 : decide ((159 : Int) < (b1 : Int)) = true := by simp; omega
  go_enter Tryd.func65, Tryd.ntmps65
  go_wp2_with fail
  go_quiet (fail)
  go_wp2_with fail
  go_ret
  exact ⟨rfl, (fun h => ⟨h.os, h.tape, h.output, h.size, h.block⟩ : ∀ {a b : World}, Below a.heap.size a b → Below a.heap.size a (b.drewN nq)) ((Below.refl _ _).alloc (Nat.le_refl _) _)⟩
set_option maxHeartbeats 1000000 in
theorem full_35_2 (g o c b0 b1 : Nat) (w : World) (h0 : w.cell? ⟨g, o, none⟩ = some (.int .u8 (b0 : Int))) (h1 : w.cell? ⟨g, o + 1, none⟩ = some (.int .u8 (b1 : Int))) (hb : b0 < 256) (ht : w.cell? ⟨9, b0, none⟩ = some (.int .u8 35)) (hlo : w.cell? ⟨10, 4, none⟩ = some (.int .u8 128)) (hhi : w.cell? ⟨10, 5, none⟩ = some (.int .u8 159)) (hb1 : ¬ b1 < 128) (hb2 : ¬ 159 < b1) :
    Calls Tryd.prog 65 #[.slice (some ⟨g, o, none⟩) 2 c] w (Full65 false w) := by
  have e1 := fun ob => (World.cell?_alloc_lt w ob ⟨g, o + 1, none⟩ (World.block_lt_of_cell? w _ h1)).trans h1
  have d1 : decide ((b1 : Int) < 128) = false := by simp; omega
  have d2 : decide ((159 : Int) < (b1 : Int)) = false := by simp; omega
  go_enter Tryd.func65, Tryd.ntmps65
  go_wp2_with fail
  go_quiet (fail)
  go_wp2_with fail
  go_ret
  exact ⟨rfl, (fun h => ⟨h.os, h.tape, h.output, h.size, h.block⟩ : ∀ {a b : World}, Below a.heap.size a b → Below a.heap.size a (b.drewN nq)) ((Below.refl _ _).alloc (Nat.le_refl _) _)⟩

/-! ### the entry 52 -/
set_option maxHeartbeats 1000000 in
theorem full_52_long (g o n c b0 : Nat) (w : World) (hn : 4 ≤ n) (h0 : w.cell? ⟨g, o, none⟩ = some (.int .u8 (b0 : Int))) (hb : b0 < 256) (ht : w.cell? ⟨9, b0, none⟩ = some (.int .u8 52)) :
    Calls Tryd.prog 65 #[.slice (some ⟨g, o, none⟩) n c] w (Full65 true w) := by
  have hnz : ((n : Int) == 0) = false := by simp; omega
  have hn1 : (0 : Int) < (n : Int) := by omega
  have hn2 : (4 : Int) ≤ (n : Int) := by omega
  go_enter Tryd.func65, Tryd.ntmps65
  go_wp2_with fail
  go_ret
  exact ⟨rfl, Below.refl _ _⟩
set_option maxHeartbeats 1000000 in
theorem full_52_1 (g o c b0 : Nat) (w : World) (h0 : w.cell? ⟨g, o, none⟩ = some (.int .u8 (b0 : Int))) (hb : b0 < 256) (ht : w.cell? ⟨9, b0, none⟩ = some (.int .u8 52)) (hlo : w.cell? ⟨10, 6, none⟩ = some (.int .u8 144)) (hhi : w.cell? ⟨10, 7, none⟩ = some (.int .u8 191)) :
    Calls Tryd.prog 65 #[.slice (some ⟨g, o, none⟩) 1 c] w (Full65 false w) := by
  go_enter Tryd.func65, Tryd.ntmps65
  go_wp2_with fail
  go_quiet (fail)
  go_wp2_with fail
  go_ret
  exact ⟨rfl, (fun h => ⟨h.os, h.tape, h.output, h.size, h.block⟩ : ∀ {a b : World}, Below a.heap.size a b → Below a.heap.size a (b.drewN nq)) ((Below.refl _ _).alloc (Nat.le_refl _) _)⟩
set_option maxHeartbeats 1000000 in
theorem full_52_bad1a_2 (g o c b0 b1 : Nat) (w : World) (h0 : w.cell? ⟨g, o, none⟩ = some (.int .u8 (b0 : Int))) (h1 : w.cell? ⟨g, o + 1, none⟩ = some (.int .u8 (b1 : Int))) (hb : b0 < 256) (ht : w.cell? ⟨9, b0, none⟩ = some (.int .u8 52)) (hlo : w.cell? ⟨10, 6, none⟩ = some (.int .u8 144)) (hhi : w.cell? ⟨10, 7, none⟩ = some (.int .u8 191)) (hb1 : b1 < 144) :
    Calls Tryd.prog 65 #[.slice (some ⟨g, o, none⟩) 2 c] w (Full65 true w) := by
  have e1 := fun ob => (World.cell?_alloc_lt w ob ⟨g, o + 1, none⟩ (World.block_lt_of_cell? w _ h1)).trans h1
  have d1 : decide ((b1 : Int) < 144) = true := by simp; omega
  go_enter Tryd.func65, Tryd.ntmps65
  go_wp2_with fail
  go_quiet (fail)
  go_wp2_with fail
  go_ret
  exact ⟨rfl, (fun h => ⟨h.os, h.tape, h.output, h.size, h.block⟩ : ∀ {a b : World}, Below a.heap.size a b → Below a.heap.size a (b.drewN nq)) ((Below.refl _ _).alloc (Nat.le_refl _) _)⟩
set_option maxHeartbeats 1000000 in
theorem full_52_bad1a_3 (g o c b0 b1 : Nat) (w : World) (h0 : w.cell? ⟨g, o, none⟩ = some (.int .u8 (b0 : Int))) (h1 : w.cell? ⟨g, o + 1, none⟩ = some (.int .u8 (b1 : Int))) (hb : b0 < 256) (ht : w.cell? ⟨9, b0, none⟩ = some (.int .u8 52)) (hlo : w.cell? ⟨10, 6, none⟩ = some (.int .u8 144)) (hhi : w.cell? ⟨10, 7, none⟩ = some (.int .u8 191)) (hb1 : b1 < 144) :
    Calls Tryd.prog 65 #[.slice (some ⟨g, o, none⟩) 3 c] w (Full65 true w) := by
  have e1 := fun ob => (World.cell?_alloc_lt w ob ⟨g, o + 1, none⟩ (World.block_lt_of_cell? w _ h1)).trans h1
  have d1 : decide ((b1 : Int) < 144) = true := by simp; omega
  go_enter Tryd.func65, Tryd.ntmps65
  go_wp2_with fail
  go_quiet (fail)
  go_wp2_with fail
  go_ret
  exact ⟨rfl, (fun h => ⟨h.os, h.tape, h.output, h.size, h.block⟩ : ∀ {a b : World}, Below a.heap.size a b → Below a.heap.size a (b.drewN nq)) ((Below.refl _ _).alloc (Nat.le_refl _) _)⟩
set_option maxHeartbeats 1000000 in
theorem full_52_bad1b_2 (g o c b0 b1 : Nat) (w : World) (h0 : w.cell? ⟨g, o, none⟩ = some (.int .u8 (b0 : Int))) (h1 : w.cell? ⟨g, o + 1, none⟩ = some (.int .u8 (b1 : Int))) (hb : b0 < 256) (ht : w.cell? ⟨9, b0, none⟩ = some (.int .u8 52)) (hlo : w.cell? ⟨10, 6, none⟩ = some (.int .u8 144)) (hhi : w.cell? ⟨10, 7, none⟩ = some (.int .u8 191)) (hb2 : 191 < b1) :
    Calls Tryd.prog 65 #[.slice (some ⟨g, o, none⟩) 2 c] w (Full65 true w) := by
  have e1 := fun ob => (World.cell?_alloc_lt w ob ⟨g, o + 1, none⟩ (World.block_lt_of_cell? w _ h1)).trans h1
  have d1 : decide ((b1 : Int) < 144) = false := by simp; omega
  have d2 : decide ((191 : Int) < (b1 : Int)) = true := by simp; omega
  go_enter Tryd.func65, Tryd.ntmps65
  go_wp2_with fail
  go_quiet (fail)
  go_wp2_with fail
  go_ret
  exact ⟨rfl, (fun h => ⟨h.os, h.tape, h.output, h.size, h.block⟩ : ∀ {a b : World}, Below a.heap.size a b → Below a.heap.size a (b.drewN nq)) ((Below.refl _ _).alloc (Nat.le_refl _) _)⟩
set_option maxHeartbeats 1000000 in
theorem full_52_bad1b_3 (g o c b0 b1 : Nat) (w : World) (h0 : w.cell? ⟨g, o, none⟩ = some (.int .u8 (b0 : Int))) (h1 : w.cell? ⟨g, o + 1, none⟩ = some (.int .u8 (b1 : Int))) (hb : b0 < 256) (ht : w.cell? ⟨9, b0, none⟩ = some (.int .u8 52)) (hlo : w.cell? ⟨10, 6, none⟩ = some (.int .u8 144)) (hhi : w.cell? ⟨10, 7, none⟩ = some (.int .u8 191)) (hb2 : 191 < b1) :
    Calls Tryd.prog 65 #[.slice (some ⟨g, o, none⟩) 3 c] w (Full65 true w) := by
  have e1 := fun ob => (World.cell?_alloc_lt w ob ⟨g, o + 1, none⟩ (World.block_lt_of_cell? w _ h1)).trans h1
  have d1 : decide ((b1 : Int) < 144) = false := by simp; omega
  have d2 : decide ((191 : Int) < (b1 : Int)) = true := by simp; omega
  go_enter Tryd.func65, Tryd.ntmps65
  go_wp2_with fail
  go_quiet (fail)
  go_wp2_with fail
  go_ret
  exact ⟨rfl, (fun h => ⟨h.os, h.tape, h.output, h.size, h.block⟩ : ∀ {a b : World}, Below a.heap.size a b → Below a.heap.size a (b.drewN nq)) ((Below.refl _ _).alloc (Nat.le_refl _) _)⟩
set_option maxHeartbeats 1000000 in
theorem full_52_2 (g o c b0 b1 : Nat) (w : World) (h0 : w.cell? ⟨g, o, none⟩ = some (.int .u8 (b0 : Int))) (h1 : w.cell? ⟨g, o + 1, none⟩ = some (.int .u8 (b1 : Int))) (hb : b0 < 256) (ht : w.cell? ⟨9, b0, none⟩ = some (.int .u8 52)) (hlo : w.cell? ⟨10, 6, none⟩ = some (.int .u8 144)) (hhi : w.cell? ⟨10, 7, none⟩ = some (.int .u8 191)) (hb1 : ¬ b1 < 144) (hb2 : ¬ 191 < b1) :
    Calls Tryd.prog 65 #[.slice (some ⟨g, o, none⟩) 2 c] w (Full65 false w) := by
  have e1 := fun ob => (World.cell?_alloc_lt w ob ⟨g, o + 1, none⟩ (World.block_lt_of_cell? w _ h1)).trans h1
  have d1 : decide ((b1 : Int) < 144) = false := by simp; omega
  have d2 : decide ((191 : Int) < (b1 : Int)) = false := by simp; omega
  go_enter Tryd.func65, Tryd.ntmps65
  go_wp2_with fail
  go_quiet (fail)
  go_wp2_with fail
  go_ret
  exact ⟨rfl, (fun h => ⟨h.os, h.tape, h.output, h.size, h.block⟩ : ∀ {a b : World}, Below a.heap.size a b → Below a.heap.size a (b.drewN nq)) ((Below.refl _ _).alloc (Nat.le_refl _) _)⟩
set_option maxRecDepth 100000 in
set_option maxHeartbeats 1000000 in
theorem full_52_bad2a (g o c b0 b1 b2 : Nat) (w : World) (h0 : w.cell? ⟨g, o, none⟩ = some (.int .u8 (b0 : Int))) (h1 : w.cell? ⟨g, o + 1, none⟩ = some (.int .u8 (b1 : Int))) (h2 : w.cell? ⟨g, o + 2, none⟩ = some (.int .u8 (b2 : Int))) (hb : b0 < 256) (ht : w.cell? ⟨9, b0, none⟩ = some (.int .u8 52)) (hlo : w.cell? ⟨10, 6, none⟩ = some (.int .u8 144)) (hhi : w.cell? ⟨10, 7, none⟩ = some (.int .u8 191)) (hb1 : ¬ b1 < 144) (hb2 : ¬ 191 < b1) (hb3 : b2 < 128) :
    Calls Tryd.prog 65 #[.slice (some ⟨g, o, none⟩) 3 c] w (Full65 true w) := by
  have e1 := fun ob => (World.cell?_alloc_lt w ob ⟨g, o + 1, none⟩ (World.block_lt_of_cell? w _ h1)).trans h1
  have e2 := fun ob => (World.cell?_alloc_lt w ob ⟨g, o + 2, none⟩ (World.block_lt_of_cell? w _ h2)).trans h2
  have d1 : decide ((b1 : Int) < 144) = false := by simp; omega
  have d2 : decide ((191 : Int) < (b1 : Int)) = false := by simp; omega
  go_enter Tryd.func65, Tryd.ntmps65
  go_wp2_with fail
  go_quiet (fail)
  go_wp2_with fail
  go_ret
  exact ⟨rfl, (fun h => ⟨h.os, h.tape, h.output, h.size, h.block⟩ : ∀ {a b : World}, Below a.heap.size a b → Below a.heap.size a (b.drewN nq)) ((Below.refl _ _).alloc (Nat.le_refl _) _)⟩
set_option maxRecDepth 100000 in
set_option maxHeartbeats 1000000 in
theorem full_52_bad2b (g o c b0 b1 b2 : Nat) (w : World) (h0 : w.cell? ⟨g, o, none⟩ = some (.int .u8 (b0 : Int))) (h1 : w.cell? ⟨g, o + 1, none⟩ = some (.int .u8 (b1 : Int))) (h2 : w.cell? ⟨g, o + 2, none⟩ = some (.int .u8 (b2 : Int))) (hb : b0 < 256) (ht : w.cell? ⟨9, b0, none⟩ = some (.int .u8 52)) (hlo : w.cell? ⟨10, 6, none⟩ = some (.int .u8 144)) (hhi : w.cell? ⟨10, 7, none⟩ = some (.int .u8 191)) (hb1 : ¬ b1 < 144) (hb2 : ¬ 191 < b1) (hb4 : 191 < b2) :
    Calls Tryd.prog 65 #[.slice (some ⟨g, o, none⟩) 3 c] w (Full65 true w) := by
  have e1 := fun ob => (World.cell?_alloc_lt w ob ⟨g, o + 1, none⟩ (World.block_lt_of_cell? w _ h1)).trans h1
  have e2 := fun ob => (World.cell?_alloc_lt w ob ⟨g, o + 2, none⟩ (World.block_lt_of_cell? w _ h2)).trans h2
  have d1 : decide ((b1 : Int) < 144) = false := by simp; omega
  have d2 : decide ((191 : Int) < (b1 : Int)) = false := by simp; omega
  go_enter Tryd.func65, Tryd.ntmps65
  go_wp2_with fail
  go_quiet (fail)
  go_wp2_with fail
  go_ret
  exact ⟨rfl, (fun h => ⟨h.os, h.tape, h.output, h.size, h.block⟩ : ∀ {a b : World}, Below a.heap.size a b → Below a.heap.size a (b.drewN nq)) ((Below.refl _ _).alloc (Nat.le_refl _) _)⟩
set_option maxRecDepth 100000 in
set_option maxHeartbeats 1000000 in
theorem full_52_3 (g o c b0 b1 b2 : Nat) (w : World) (h0 : w.cell? ⟨g, o, none⟩ = some (.int .u8 (b0 : Int))) (h1 : w.cell? ⟨g, o + 1, none⟩ = some (.int .u8 (b1 : Int))) (h2 : w.cell? ⟨g, o + 2, none⟩ = some (.int .u8 (b2 : Int))) (hb : b0 < 256) (ht : w.cell? ⟨9, b0, none⟩ = some (.int .u8 52)) (hlo : w.cell? ⟨10, 6, none⟩ = some (.int .u8 144)) (hhi : w.cell? ⟨10, 7, none⟩ = some (.int .u8 191)) (hb1 : ¬ b1 < 144) (hb2 : ¬ 191 < b1) (hb3 : ¬ b2 < 128) (hb4 : ¬ 191 < b2) :
    Calls Tryd.prog 65 #[.slice (some ⟨g, o, none⟩) 3 c] w (Full65 false w) := by
  have e1 := fun ob => (World.cell?_alloc_lt w ob ⟨g, o + 1, none⟩ (World.block_lt_of_cell? w _ h1)).trans h1
  have e2 := fun ob => (World.cell?_alloc_lt w ob ⟨g, o + 2, none⟩ (World.block_lt_of_cell? w _ h2)).trans h2
  have d1 : decide ((b1 : Int) < 144) = false := by simp; omega
  have d2 : decide ((191 : Int) < (b1 : Int)) = false := by simp; omega
  go_enter Tryd.func65, Tryd.ntmps65
  go_wp2_with fail
  go_quiet (fail)
  go_wp2_with fail
  go_ret
  exact ⟨rfl, (fun h => ⟨h.os, h.tape, h.output, h.size, h.block⟩ : ∀ {a b : World}, Below a.heap.size a b → Below a.heap.size a (b.drewN nq)) ((Below.refl _ _).alloc (Nat.le_refl _) _)⟩

/-! ### the entry 4 -/
set_option maxHeartbeats 1000000 in
theorem full_4_long (g o n c b0 : Nat) (w : World) (hn : 4 ≤ n) (h0 : w.cell? ⟨g, o, none⟩ = some (.int .u8 (b0 : Int))) (hb : b0 < 256) (ht : w.cell? ⟨9, b0, none⟩ = some (.int .u8 4)) :
    Calls Tryd.prog 65 #[.slice (some ⟨g, o, none⟩) n c] w (Full65 true w) := by
  have hnz : ((n : Int) == 0) = false := by simp; omega
  have hn1 : (0 : Int) < (n : Int) := by omega
  have hn2 : (4 : Int) ≤ (n : Int) := by omega
  go_enter Tryd.func65, Tryd.ntmps65
  go_wp2_with fail
  go_ret
  exact ⟨rfl, Below.refl _ _⟩
set_option maxHeartbeats 1000000 in
theorem full_4_1 (g o c b0 : Nat) (w : World) (h0 : w.cell? ⟨g, o, none⟩ = some (.int .u8 (b0 : Int))) (hb : b0 < 256) (ht : w.cell? ⟨9, b0, none⟩ = some (.int .u8 4)) (hlo : w.cell? ⟨10, 0, none⟩ = some (.int .u8 128)) (hhi : w.cell? ⟨10, 1, none⟩ = some (.int .u8 191)) :
    Calls Tryd.prog 65 #[.slice (some ⟨g, o, none⟩) 1 c] w (Full65 false w) := by
  go_enter Tryd.func65, Tryd.ntmps65
  go_wp2_with fail
  go_quiet (fail)
  go_wp2_with fail
  go_ret
  exact ⟨rfl, (fun h => ⟨h.os, h.tape, h.output, h.size, h.block⟩ : ∀ {a b : World}, Below a.heap.size a b → Below a.heap.size a (b.drewN nq)) ((Below.refl _ _).alloc (Nat.le_refl _) _)⟩
set_option maxHeartbeats 1000000 in
theorem full_4_bad1a_2 (g o c b0 b1 : Nat) (w : World) (h0 : w.cell? ⟨g, o, none⟩ = some (.int .u8 (b0 : Int))) (h1 : w.cell? ⟨g, o + 1, none⟩ = some (.int .u8 (b1 : Int))) (hb : b0 < 256) (ht : w.cell? ⟨9, b0, none⟩ = some (.int .u8 4)) (hlo : w.cell? ⟨10, 0, none⟩ = some (.int .u8 128)) (hhi : w.cell? ⟨10, 1, none⟩ = some (.int .u8 191)) (hb1 : b1 < 128) :
    Calls Tryd.prog 65 #[.slice (some ⟨g, o, none⟩) 2 c] w (Full65 true w) := by
  have e1 := fun ob => (World.cell?_alloc_lt w ob ⟨g, o + 1, none⟩ (World.block_lt_of_cell? w _ h1)).trans h1
  have d1 : decide ((b1 : Int) < 128) = true := by simp; omega
  go_enter Tryd.func65, Tryd.ntmps65
  go_wp2_with fail
  go_quiet (fail)
  go_wp2_with fail
  go_ret
  exact ⟨rfl, (fun h => ⟨h.os, h.tape, h.output, h.size, h.block⟩ : ∀ {a b : World}, Below a.heap.size a b → Below a.heap.size a (b.drewN nq)) ((Below.refl _ _).alloc (Nat.le_refl _) _)⟩
set_option maxHeartbeats 1000000 in
theorem full_4_bad1a_3 (g o c b0 b1 : Nat) (w : World) (h0 : w.cell? ⟨g, o, none⟩ = some (.int .u8 (b0 : Int))) (h1 : w.cell? ⟨g, o + 1, none⟩ = some (.int .u8 (b1 : Int))) (hb : b0 < 256) (ht : w.cell? ⟨9, b0, none⟩ = some (.int .u8 4)) (hlo : w.cell? ⟨10, 0, none⟩ = some (.int .u8 128)) (hhi : w.cell? ⟨10, 1, none⟩ = some (.int .u8 191)) (hb1 : b1 < 128) :
    Calls Tryd.prog 65 #[.slice (some ⟨g, o, none⟩) 3 c] w (Full65 true w) := by
  have e1 := fun ob => (World.cell?_alloc_lt w ob ⟨g, o + 1, none⟩ (World.block_lt_of_cell? w _ h1)).trans h1
  have d1 : decide ((b1 : Int) < 128) = true := by simp; omega
  go_enter Tryd.func65, Tryd.ntmps65
  go_wp2_with fail
  go_quiet (fail)
  go_wp2_with fail
  go_ret
  exact ⟨rfl, (fun h => ⟨h.os, h.tape, h.output, h.size, h.block⟩ : ∀ {a b : World}, Below a.heap.size a b → Below a.heap.size a (b.drewN nq)) ((Below.refl _ _).alloc (Nat.le_refl _) _)⟩
set_option maxHeartbeats 1000000 in
theorem full_4_bad1b_2 (g o c b0 b1 : Nat) (w : World) (h0 : w.cell? ⟨g, o, none⟩ = some (.int .u8 (b0 : Int))) (h1 : w.cell? ⟨g, o + 1, none⟩ = some (.int .u8 (b1 : Int))) (hb : b0 < 256) (ht : w.cell? ⟨9, b0, none⟩ = some (.int .u8 4)) (hlo : w.cell? ⟨10, 0, none⟩ = some (.int .u8 128)) (hhi : w.cell? ⟨10, 1, none⟩ = some (.int .u8 191)) (hb2 : 191 < b1) :
    Calls Tryd.prog 65 #[.slice (some ⟨g, o, none⟩) 2 c] w (Full65 true w) := by
  have e1 := fun ob => (World.cell?_alloc_lt w ob ⟨g, o + 1, none⟩ (World.block_lt_of_cell? w _ h1)).trans h1
  have d1 : decide ((b1 : Int) < 128) = false := by simp; omega
  have d2 : decide ((191 : Int) < (b1 : Int)) = true := by simp; omega
  go_enter Tryd.func65, Tryd.ntmps65
  go_wp2_with fail
  go_quiet (fail)
  go_wp2_with fail
  go_ret
  exact ⟨rfl, (fun h => ⟨h.os, h.tape, h.output, h.size, h.block⟩ : ∀ {a b : World}, Below a.heap.size a b → Below a.heap.size a (b.drewN nq)) ((Below.refl _ _).alloc (Nat.le_refl _) _)⟩
set_option maxHeartbeats 1000000 in
theorem full_4_bad1b_3 (g o c b0 b1 : Nat) (w : World) (h0 : w.cell? ⟨g, o, none⟩ = some (.int .u8 (b0 : Int))) (h1 : w.cell? ⟨g, o + 1, none⟩ = some (.int .u8 (b1 : Int))) (hb : b0 < 256) (ht : w.cell? ⟨9, b0, none⟩ = some (.int .u8 4)) (hlo : w.cell? ⟨10, 0, none⟩ = some (.int .u8 128)) (hhi : w.cell? ⟨10, 1, none⟩ = some (.int .u8 191)) (hb2 : 191 < b1) :
    Calls Tryd.prog 65 #[.slice (some ⟨g, o, none⟩) 3 c] w (Full65 true w) := by
  have e1 := fun ob => (World.cell?_alloc_lt w ob ⟨g, o + 1, none⟩ (World.block_lt_of_cell? w _ h1)).trans h1
  have d1 : decide ((b1 : Int) < 128) = false := by simp; omega
  have d2 : decide ((191 : Int) < (b1 : Int)) = true := by simp; omega
  go_enter Tryd.func65, Tryd.ntmps65
  go_wp2_with fail
  go_quiet (fail)
  go_wp2_with fail
  go_ret
  exact ⟨rfl, (fun h => ⟨h.os, h.tape, h.output, h.size, h.block⟩ : ∀ {a b : World}, Below a.heap.size a b → Below a.heap.size a (b.drewN nq)) ((Below.refl _ _).alloc (Nat.le_refl _) _)⟩
set_option maxHeartbeats 1000000 in
theorem full_4_2 (g o c b0 b1 : Nat) (w : World) (h0 : w.cell? ⟨g, o, none⟩ = some (.int .u8 (b0 : Int))) (h1 : w.cell? ⟨g, o + 1, none⟩ = some (.int .u8 (b1 : Int))) (hb : b0 < 256) (ht : w.cell? ⟨9, b0, none⟩ = some (.int .u8 4)) (hlo : w.cell? ⟨10, 0, none⟩ = some (.int .u8 128)) (hhi : w.cell? ⟨10, 1, none⟩ = some (.int .u8 191)) (hb1 : ¬ b1 < 128) (hb2 : ¬ 191 < b1) :
    Calls Tryd.prog 65 #[.slice (some ⟨g, o, none⟩) 2 c] w (Full65 false w) := by
  have e1 := fun ob => (World.cell?_alloc_lt w ob ⟨g, o + 1, none⟩ (World.block_lt_of_cell? w _ h1)).trans h1
  have d1 : decide ((b1 : Int) < 128) = false := by simp; omega
  have d2 : decide ((191 : Int) < (b1 : Int)) = false := by simp; omega
  go_enter Tryd.func65, Tryd.ntmps65
  go_wp2_with fail
  go_quiet (fail)
  go_wp2_with fail
  go_ret
  exact ⟨rfl, (fun h => ⟨h.os, h.tape, h.output, h.size, h.block⟩ : ∀ {a b : World}, Below a.heap.size a b → Below a.heap.size a (b.drewN nq)) ((Below.refl _ _).alloc (Nat.le_refl _) _)⟩
set_option maxRecDepth 100000 in
set_option maxHeartbeats 1000000 in
theorem full_4_bad2a (g o c b0 b1 b2 : Nat) (w : World) (h0 : w.cell? ⟨g, o, none⟩ = some (.int .u8 (b0 : Int))) (h1 : w.cell? ⟨g, o + 1, none⟩ = some (.int .u8 (b1 : Int))) (h2 : w.cell? ⟨g, o + 2, none⟩ = some (.int .u8 (b2 : Int))) (hb : b0 < 256) (ht : w.cell? ⟨9, b0, none⟩ = some (.int .u8 4)) (hlo : w.cell? ⟨10, 0, none⟩ = some (.int .u8 128)) (hhi : w.cell? ⟨10, 1, none⟩ = some (.int .u8 191)) (hb1 : ¬ b1 < 128) (hb2 : ¬ 191 < b1) (hb3 : b2 < 128) :
    Calls Tryd.prog 65 #[.slice (some ⟨g, o, none⟩) 3 c] w (Full65 true w) := by
  have e1 := fun ob => (World.cell?_alloc_lt w ob ⟨g, o + 1, none⟩ (World.block_lt_of_cell? w _ h1)).trans h1
  have e2 := fun ob => (World.cell?_alloc_lt w ob ⟨g, o + 2, none⟩ (World.block_lt_of_cell? w _ h2)).trans h2
  have d1 : decide ((b1 : Int) < 128) = false := by simp; omega
  have d2 : decide ((191 : Int) < (b1 : Int)) = false := by simp; omega
  go_enter Tryd.func65, Tryd.ntmps65
  go_wp2_with fail
  go_quiet (fail)
  go_wp2_with fail
  go_ret
  exact ⟨rfl, (fun h => ⟨h.os, h.tape, h.output, h.size, h.block⟩ : ∀ {a b : World}, Below a.heap.size a b → Below a.heap.size a (b.drewN nq)) ((Below.refl _ _).alloc (Nat.le_refl _) _)⟩
set_option maxRecDepth 100000 in
set_option maxHeartbeats 1000000 in
theorem full_4_bad2b (g o c b0 b1 b2 : Nat) (w : World) (h0 : w.cell? ⟨g, o, none⟩ = some (.int .u8 (b0 : Int))) (h1 : w.cell? ⟨g, o + 1, none⟩ = some (.int .u8 (b1 : Int))) (h2 : w.cell? ⟨g, o + 2, none⟩ = some (.int .u8 (b2 : Int))) (hb : b0 < 256) (ht : w.cell? ⟨9, b0, none⟩ = some (.int .u8 4)) (hlo : w.cell? ⟨10, 0, none⟩ = some (.int .u8 128)) (hhi : w.cell? ⟨10, 1, none⟩ = some (.int .u8 191)) (hb1 : ¬ b1 < 128) (hb2 : ¬ 191 < b1) (hb4 : 191 < b2) :
    Calls Tryd.prog 65 #[.slice (some ⟨g, o, none⟩) 3 c] w (Full65 true w) := by
  have e1 := fun ob => (World.cell?_alloc_lt w ob ⟨g, o + 1, none⟩ (World.block_lt_of_cell? w _ h1)).trans h1
  have e2 := fun ob => (World.cell?_alloc_lt w ob ⟨g, o + 2, none⟩ (World.block_lt_of_cell? w _ h2)).trans h2
  have d1 : decide ((b1 : Int) < 128) = false := by simp; omega
  have d2 : decide ((191 : Int) < (b1 : Int)) = false := by simp; omega
  go_enter Tryd.func65, Tryd.ntmps65
  go_wp2_with fail
  go_quiet (fail)
  go_wp2_with fail
  go_ret
  exact ⟨rfl, (fun h => ⟨h.os, h.tape, h.output, h.size, h.block⟩ : ∀ {a b : World}, Below a.heap.size a b → Below a.heap.size a (b.drewN nq)) ((Below.refl _ _).alloc (Nat.le_refl _) _)⟩
set_option maxRecDepth 100000 in
set_option maxHeartbeats 1000000 in
theorem full_4_3 (g o c b0 b1 b2 : Nat) (w : World) (h0 : w.cell? ⟨g, o, none⟩ = some (.int .u8 (b0 : Int))) (h1 : w.cell? ⟨g, o + 1, none⟩ = some (.int .u8 (b1 : Int))) (h2 : w.cell? ⟨g, o + 2, none⟩ = some (.int .u8 (b2 : Int))) (hb : b0 < 256) (ht : w.cell? ⟨9, b0, none⟩ = some (.int .u8 4)) (hlo : w.cell? ⟨10, 0, none⟩ = some (.int .u8 128)) (hhi : w.cell? ⟨10, 1, none⟩ = some (.int .u8 191)) (hb1 : ¬ b1 < 128) (hb2 : ¬ 191 < b1) (hb3 : ¬ b2 < 128) (hb4 : ¬ 191 < b2) :
    Calls Tryd.prog 65 #[.slice (some ⟨g, o, none⟩) 3 c] w (Full65 false w) := by
  have e1 := fun ob => (World.cell?_alloc_lt w ob ⟨g, o + 1, none⟩ (World.block_lt_of_cell? w _ h1)).trans h1
  have e2 := fun ob => (World.cell?_alloc_lt w ob ⟨g, o + 2, none⟩ (World.block_lt_of_cell? w _ h2)).trans h2
  have d1 : decide ((b1 : Int) < 128) = false := by simp; omega
  have d2 : decide ((191 : Int) < (b1 : Int)) = false := by simp; omega
  go_enter Tryd.func65, Tryd.ntmps65
  go_wp2_with fail
  go_quiet (fail)
  go_wp2_with fail
  go_ret
  exact ⟨rfl, (fun h => ⟨h.os, h.tape, h.output, h.size, h.block⟩ : ∀ {a b : World}, Below a.heap.size a b → Below a.heap.size a (b.drewN nq)) ((Below.refl _ _).alloc (Nat.le_refl _) _)⟩

/-! ### the entry 68 -/
set_option maxHeartbeats 1000000 in
theorem full_68_long (g o n c b0 : Nat) (w : World) (hn : 4 ≤ n) (h0 : w.cell? ⟨g, o, none⟩ = some (.int .u8 (b0 : Int))) (hb : b0 < 256) (ht : w.cell? ⟨9, b0, none⟩ = some (.int .u8 68)) :
    Calls Tryd.prog 65 #[.slice (some ⟨g, o, none⟩) n c] w (Full65 true w) := by
  have hnz : ((n : Int) == 0) = false := by simp; omega
  have hn1 : (0 : Int) < (n : Int) := by omega
  have hn2 : (4 : Int) ≤ (n : Int) := by omega
  go_enter Tryd.func65, Tryd.ntmps65
  go_wp2_with fail
  go_ret
  exact ⟨rfl, Below.refl _ _⟩
set_option maxHeartbeats 1000000 in
theorem full_68_1 (g o c b0 : Nat) (w : World) (h0 : w.cell? ⟨g, o, none⟩ = some (.int .u8 (b0 : Int))) (hb : b0 < 256) (ht : w.cell? ⟨9, b0, none⟩ = some (.int .u8 68)) (hlo : w.cell? ⟨10, 8, none⟩ = some (.int .u8 128)) (hhi : w.cell? ⟨10, 9, none⟩ = some (.int .u8 143)) :
    Calls Tryd.prog 65 #[.slice (some ⟨g, o, none⟩) 1 c] w (Full65 false w) := by
  go_enter Tryd.func65, Tryd.ntmps65
  go_wp2_with fail
  go_quiet (fail)
  go_wp2_with fail
  go_ret
  exact ⟨rfl, (fun h => ⟨h.os, h.tape, h.output, h.size, h.block⟩ : ∀ {a b : World}, Below a.heap.size a b → Below a.heap.size a (b.drewN nq)) ((Below.refl _ _).alloc (Nat.le_refl _) _)⟩
set_option maxHeartbeats 1000000 in
theorem full_68_bad1a_2 (g o c b0 b1 : Nat) (w : World) (h0 : w.cell? ⟨g, o, none⟩ = some (.int .u8 (b0 : Int))) (h1 : w.cell? ⟨g, o + 1, none⟩ = some (.int .u8 (b1 : Int))) (hb : b0 < 256) (ht : w.cell? ⟨9, b0, none⟩ = some (.int .u8 68)) (hlo : w.cell? ⟨10, 8, none⟩ = some (.int .u8 128)) (hhi : w.cell? ⟨10, 9, none⟩ = some (.int .u8 143)) (hb1 : b1 < 128) :
    Calls Tryd.prog 65 #[.slice (some ⟨g, o, none⟩) 2 c] w (Full65 true w) := by
  have e1 := fun ob => (World.cell?_alloc_lt w ob ⟨g, o + 1, none⟩ (World.block_lt_of_cell? w _ h1)).trans h1
  have d1 : decide ((b1 : Int) < 128) = true := by simp; omega
  go_enter Tryd.func65, Tryd.ntmps65
  go_wp2_with fail
  go_quiet (fail)
  go_wp2_with fail
  go_ret
  exact ⟨rfl, (fun h => ⟨h.os, h.tape, h.output, h.size, h.block⟩ : ∀ {a b : World}, Below a.heap.size a b → Below a.heap.size a (b.drewN nq)) ((Below.refl _ _).alloc (Nat.le_refl _) _)⟩
set_option maxHeartbeats 1000000 in
theorem full_68_bad1a_3 (g o c b0 b1 : Nat) (w : World) (h0 : w.cell? ⟨g, o, none⟩ = some (.int .u8 (b0 : Int))) (h1 : w.cell? ⟨g, o + 1, none⟩ = some (.int .u8 (b1 : Int))) (hb : b0 < 256) (ht : w.cell? ⟨9, b0, none⟩ = some (.int .u8 68)) (hlo : w.cell? ⟨10, 8, none⟩ = some (.int .u8 128)) (hhi : w.cell? ⟨10, 9, none⟩ = some (.int .u8 143)) (hb1 : b1 < 128) :
    Calls Tryd.prog 65 #[.slice (some ⟨g, o, none⟩) 3 c] w (Full65 true w) := by
  have e1 := fun ob => (World.cell?_alloc_lt w ob ⟨g, o + 1, none⟩ (World.block_lt_of_cell? w _ h1)).trans h1
  have d1 : decide ((b1 : Int) < 128) = true := by simp; omega
  go_enter Tryd.func65, Tryd.ntmps65
  go_wp2_with fail
  go_quiet (fail)
  go_wp2_with fail
  go_ret
  exact ⟨rfl, (fun h => ⟨h.os, h.tape, h.output, h.size, h.block⟩ : ∀ {a b : World}, Below a.heap.size a b → Below a.heap.size a (b.drewN nq)) ((Below.refl _ _).alloc (Nat.le_refl _) _)⟩
set_option maxHeartbeats 1000000 in
theorem full_68_bad1b_2 (g o c b0 b1 : Nat) (w : World) (h0 : w.cell? ⟨g, o, none⟩ = some (.int .u8 (b0 : Int))) (h1 : w.cell? ⟨g, o + 1, none⟩ = some (.int .u8 (b1 : Int))) (hb : b0 < 256) (ht : w.cell? ⟨9, b0, none⟩ = some (.int .u8 68)) (hlo : w.cell? ⟨10, 8, none⟩ = some (.int .u8 128)) (hhi : w.cell? ⟨10, 9, none⟩ = some (.int .u8 143)) (hb2 : 143 < b1) :
    Calls Tryd.prog 65 #[.slice (some ⟨g, o, none⟩) 2 c] w (Full65 true w) := by
  have e1 := fun ob => (World.cell?_alloc_lt w ob ⟨g, o + 1, none⟩ (World.block_lt_of_cell? w _ h1)).trans h1
  have d1 : decide ((b1 : Int) < 128) = false := by simp; omega
  have d2 : decide ((143 : Int) < (b1 : Int)) = true := by simp; omega
  go_enter Tryd.func65, Tryd.ntmps65
  go_wp2_with fail
  go_quiet (fail)
  go_wp2_with fail
  go_ret
  exact ⟨rfl, (fun h => ⟨h.os, h.tape, h.output, h.size, h.block⟩ : ∀ {a b : World}, Below a.heap.size a b → Below a.heap.size a (b.drewN nq)) ((Below.refl _ _).alloc (Nat.le_refl _) _)⟩
set_option maxHeartbeats 1000000 in
theorem full_68_bad1b_3 (g o c b0 b1 : Nat) (w : World) (h0 : w.cell? ⟨g, o, none⟩ = some (.int .u8 (b0 : Int))) (h1 : w.cell? ⟨g, o + 1, none⟩ = some (.int .u8 (b1 : Int))) (hb : b0 < 256) (ht : w.cell? ⟨9, b0, none⟩ = some (.int .u8 68)) (hlo : w.cell? ⟨10, 8, none⟩ = some (.int .u8 128)) (hhi : w.cell? ⟨10, 9, none⟩ = some (.int .u8 143)) (hb2 : 143 < b1) :
    Calls Tryd.prog 65 #[.slice (some ⟨g, o, none⟩) 3 c] w (Full65 true w) := by
  have e1 := fun ob => (World.cell?_alloc_lt w ob ⟨g, o + 1, none⟩ (World.block_lt_of_cell? w _ h1)).trans h1
  have d1 : decide ((b1 : Int) < 128) = false := by simp; omega
  have d2 : decide ((143 : Int) < (b1 : Int)) = true := by simp; omega
  go_enter Tryd.func65, Tryd.ntmps65
  go_wp2_with fail
  go_quiet (fail)
  go_wp2_with fail
  go_ret
  exact ⟨rfl, (fun h => ⟨h.os, h.tape, h.output, h.size, h.block⟩ : ∀ {a b : World}, Below a.heap.size a b → Below a.heap.size a (b.drewN nq)) ((Below.refl _ _).alloc (Nat.le_refl _) _)⟩
set_option maxHeartbeats 1000000 in
theorem full_68_2 (g o c b0 b1 : Nat) (w : World) (h0 : w.cell? ⟨g, o, none⟩ = some (.int .u8 (b0 : Int))) (h1 : w.cell? ⟨g, o + 1, none⟩ = some (.int .u8 (b1 : Int))) (hb : b0 < 256) (ht : w.cell? ⟨9, b0, none⟩ = some (.int .u8 68)) (hlo : w.cell? ⟨10, 8, none⟩ = some (.int .u8 128)) (hhi : w.cell? ⟨10, 9, none⟩ = some (.int .u8 143)) (hb1 : ¬ b1 < 128) (hb2 : ¬ 143 < b1) :
    Calls Tryd.prog 65 #[.slice (some ⟨g, o, none⟩) 2 c] w (Full65 false w) := by
  have e1 := fun ob => (World.cell?_alloc_lt w ob ⟨g, o + 1, none⟩ (World.block_lt_of_cell? w _ h1)).trans h1
  have d1 : decide ((b1 : Int) < 128) = false := by simp; omega
  have d2 : decide ((143 : Int) < (b1 : Int)) = false := by simp; omega
  go_enter Tryd.func65, Tryd.ntmps65
  go_wp2_with fail
  go_quiet (fail)
  go_wp2_with fail
  go_ret
  exact ⟨rfl, (fun h => ⟨h.os, h.tape, h.output, h.size, h.block⟩ : ∀ {a b : World}, Below a.heap.size a b → Below a.heap.size a (b.drewN nq)) ((Below.refl _ _).alloc (Nat.le_refl _) _)⟩
set_option maxRecDepth 100000 in
set_option maxHeartbeats 1000000 in
theorem full_68_bad2a (g o c b0 b1 b2 : Nat) (w : World) (h0 : w.cell? ⟨g, o, none⟩ = some (.int .u8 (b0 : Int))) (h1 : w.cell? ⟨g, o + 1, none⟩ = some (.int .u8 (b1 : Int))) (h2 : w.cell? ⟨g, o + 2, none⟩ = some (.int .u8 (b2 : Int))) (hb : b0 < 256) (ht : w.cell? ⟨9, b0, none⟩ = some (.int .u8 68)) (hlo : w.cell? ⟨10, 8, none⟩ = some (.int .u8 128)) (hhi : w.cell? ⟨10, 9, none⟩ = some (.int .u8 143)) (hb1 : ¬ b1 < 128) (hb2 : ¬ 143 < b1) (hb3 : b2 < 128) :
    Calls Tryd.prog 65 #[.slice (some ⟨g, o, none⟩) 3 c] w (Full65 true w) := by
  have e1 := fun ob => (World.cell?_alloc_lt w ob ⟨g, o + 1, none⟩ (World.block_lt_of_cell? w _ h1)).trans h1
  have e2 := fun ob => (World.cell?_alloc_lt w ob ⟨g, o + 2, none⟩ (World.block_lt_of_cell? w _ h2)).trans h2
  have d1 : decide ((b1 : Int) < 128) = false := by simp; omega
  have d2 : decide ((143 : Int) < (b1 : Int)) = false := by simp; omega
  go_enter Tryd.func65, Tryd.ntmps65
  go_wp2_with fail
  go_quiet (fail)
  go_wp2_with fail
  go_ret
  exact ⟨rfl, (fun h => ⟨h.os, h.tape, h.output, h.size, h.block⟩ : ∀ {a b : World}, Below a.heap.size a b → Below a.heap.size a (b.drewN nq)) ((Below.refl _ _).alloc (Nat.le_refl _) _)⟩
set_option maxRecDepth 100000 in
set_option maxHeartbeats 1000000 in
theorem full_68_bad2b (g o c b0 b1 b2 : Nat) (w : World) (h0 : w.cell? ⟨g, o, none⟩ = some (.int .u8 (b0 : Int))) (h1 : w.cell? ⟨g, o + 1, none⟩ = some (.int .u8 (b1 : Int))) (h2 : w.cell? ⟨g, o + 2, none⟩ = some (.int .u8 (b2 : Int))) (hb : b0 < 256) (ht : w.cell? ⟨9, b0, none⟩ = some (.int .u8 68)) (hlo : w.cell? ⟨10, 8, none⟩ = some (.int .u8 128)) (hhi : w.cell? ⟨10, 9, none⟩ = some (.int .u8 143)) (hb1 : ¬ b1 < 128) (hb2 : ¬ 143 < b1) (hb4 : 191 < b2) :
    Calls Tryd.prog 65 #[.slice (some ⟨g, o, none⟩) 3 c] w (Full65 true w) := by
  have e1 := fun ob => (World.cell?_alloc_lt w ob ⟨g, o + 1, none⟩ (World.block_lt_of_cell? w _ h1)).trans h1
  have e2 := fun ob => (World.cell?_alloc_lt w ob ⟨g, o + 2, none⟩ (World.block_lt_of_cell? w _ h2)).trans h2
  have d1 : decide ((b1 : Int) < 128) = false := by simp; omega
  have d2 : decide ((143 : Int) < (b1 : Int)) = false := by simp; omega
  go_enter Tryd.func65, Tryd.ntmps65
  go_wp2_with fail
  go_quiet (fail)
  go_wp2_with fail
  go_ret
  exact ⟨rfl, (fun h => ⟨h.os, h.tape, h.output, h.size, h.block⟩ : ∀ {a b : World}, Below a.heap.size a b → Below a.heap.size a (b.drewN nq)) ((Below.refl _ _).alloc (Nat.le_refl _) _)⟩
set_option maxRecDepth 100000 in
set_option maxHeartbeats 1000000 in
theorem full_68_3 (g o c b0 b1 b2 : Nat) (w : World) (h0 : w.cell? ⟨g, o, none⟩ = some (.int .u8 (b0 : Int))) (h1 : w.cell? ⟨g, o + 1, none⟩ = some (.int .u8 (b1 : Int))) (h2 : w.cell? ⟨g, o + 2, none⟩ = some (.int .u8 (b2 : Int))) (hb : b0 < 256) (ht : w.cell? ⟨9, b0, none⟩ = some (.int .u8 68)) (hlo : w.cell? ⟨10, 8, none⟩ = some (.int .u8 128)) (hhi : w.cell? ⟨10, 9, none⟩ = some (.int .u8 143)) (hb1 : ¬ b1 < 128) (hb2 : ¬ 143 < b1) (hb3 : ¬ b2 < 128) (hb4 : ¬ 191 < b2) :
    Calls Tryd.prog 65 #[.slice (some ⟨g, o, none⟩) 3 c] w (Full65 false w) := by
  have e1 := fun ob => (World.cell?_alloc_lt w ob ⟨g, o + 1, none⟩ (World.block_lt_of_cell? w _ h1)).trans h1
  have e2 := fun ob => (World.cell?_alloc_lt w ob ⟨g, o + 2, none⟩ (World.block_lt_of_cell? w _ h2)).trans h2
  have d1 : decide ((b1 : Int) < 128) = false := by simp; omega
  have d2 : decide ((143 : Int) < (b1 : Int)) = false := by simp; omega
  go_enter Tryd.func65, Tryd.ntmps65
  go_wp2_with fail
  go_quiet (fail)
  go_wp2_with fail
  go_ret
  exact ⟨rfl, (fun h => ⟨h.os, h.tape, h.output, h.size, h.block⟩ : ∀ {a b : World}, Below a.heap.size a b → Below a.heap.size a (b.drewN nq)) ((Below.refl _ _).alloc (Nat.le_refl _) _)⟩

theorem fullM_ne {p : List UInt8} (h : p.length ≠ 0) (x : Nat) (hx : Lib.firstT (p.getD 0 0).toNat = x) : fullM p = (if x % 8 ≤ p.length then true else if 1 < p.length ∧ ((p.getD 1 0).toNat < Lib.accLo (x / 16) ∨ Lib.accHi (x / 16) < (p.getD 1 0).toNat) then true else if 2 < p.length ∧ ((p.getD 2 0).toNat < 128 ∨ 191 < (p.getD 2 0).toNat) then true else false) := by
  simp only [fullM, if_neg h, hx]
theorem fullRune65 (g o c : Nat) (p : List UInt8) (w : World) (hr : RowAt w g o p) (hT : Lib.Utf8Tabs 9 10 w) : Calls Tryd.prog 65 #[.slice (some ⟨g, o, none⟩) p.length c] w (Full65 (fullM p) w) := by
  by_cases h0 : p.length = 0
  · have e : p = [] := List.eq_nil_of_length_eq_zero h0
    subst e
    exact full_none g o c w
  have hb0 := (p.getD 0 0).toNat_lt
  have c0 := row_cell hr 0 (by omega)
  rw [Nat.add_zero] at c0
  have ct := hT.1 (p.getD 0 0).toNat (by omega)
  rcases Lib.firstT_cases (p.getD 0 0).toNat with hx | hx | hx | hx | hx | hx | hx | hx | hx
  · rw [fullM_ne h0 _ hx, if_pos (by omega)]
    exact full_easy g o p.length c _ _ w (by omega) c0 (by omega) ct (.inl hx)
  · rw [fullM_ne h0 _ hx, if_pos (by omega)]
    exact full_easy g o p.length c _ _ w (by omega) c0 (by omega) ct (.inr hx)
  · rw [hx] at ct
    have cl := (hT.2 0 (by omega)).1
    have ch := (hT.2 0 (by omega)).2
    rw [show Lib.accLo 0 = 128 from rfl] at cl
    rw [show Lib.accHi 0 = 191 from rfl] at ch
    rw [fullM_ne h0 _ hx, show (2 / 16 : Nat) = 0 from rfl, show (2 % 8 : Nat) = 2 from rfl, show Lib.accLo 0 = 128 from rfl, show Lib.accHi 0 = 191 from rfl]
    by_cases hl : 2 ≤ p.length
    · rw [if_pos hl]
      exact full_2_long g o p.length c _ w hl c0 (by omega) ct
    · rw [if_neg hl]
      by_cases l1 : p.length = 1
      · rw [if_neg (by omega), if_neg (by omega), l1]
        exact full_2_1 g o c _ w c0 (by omega) ct cl ch
      · omega
  · rw [hx] at ct
    have cl := (hT.2 1 (by omega)).1
    have ch := (hT.2 1 (by omega)).2
    rw [show Lib.accLo 1 = 160 from rfl] at cl
    rw [show Lib.accHi 1 = 191 from rfl] at ch
    rw [fullM_ne h0 _ hx, show (19 / 16 : Nat) = 1 from rfl, show (19 % 8 : Nat) = 3 from rfl, show Lib.accLo 1 = 160 from rfl, show Lib.accHi 1 = 191 from rfl]
    by_cases hl : 3 ≤ p.length
    · rw [if_pos hl]
      exact full_19_long g o p.length c _ w hl c0 (by omega) ct
    · rw [if_neg hl]
      by_cases l1 : p.length = 1
      · rw [if_neg (by omega), if_neg (by omega), l1]
        exact full_19_1 g o c _ w c0 (by omega) ct cl ch
      · have c1 := row_cell hr 1 (by omega)
        by_cases q1 : (p.getD 1 0).toNat < 160
        · rw [if_pos ⟨by omega, .inl q1⟩]
          by_cases l2 : p.length = 2
          · rw [l2]; exact full_19_bad1a_2 g o c _ _ w c0 c1 (by omega) ct cl ch q1
          · omega
        · by_cases q2 : 191 < (p.getD 1 0).toNat
          · rw [if_pos ⟨by omega, .inr q2⟩]
            by_cases l2 : p.length = 2
            · rw [l2]; exact full_19_bad1b_2 g o c _ _ w c0 c1 (by omega) ct cl ch q2
            · omega
          · rw [if_neg (by omega)]
            by_cases l2 : p.length = 2
            · rw [if_neg (by omega), l2]; exact full_19_2 g o c _ _ w c0 c1 (by omega) ct cl ch q1 q2
            · omega
  · rw [hx] at ct
    have cl := (hT.2 0 (by omega)).1
    have ch := (hT.2 0 (by omega)).2
    rw [show Lib.accLo 0 = 128 from rfl] at cl
    rw [show Lib.accHi 0 = 191 from rfl] at ch
    rw [fullM_ne h0 _ hx, show (3 / 16 : Nat) = 0 from rfl, show (3 % 8 : Nat) = 3 from rfl, show Lib.accLo 0 = 128 from rfl, show Lib.accHi 0 = 191 from rfl]
    by_cases hl : 3 ≤ p.length
    · rw [if_pos hl]
      exact full_3_long g o p.length c _ w hl c0 (by omega) ct
    · rw [if_neg hl]
      by_cases l1 : p.length = 1
      · rw [if_neg (by omega), if_neg (by omega), l1]
        exact full_3_1 g o c _ w c0 (by omega) ct cl ch
      · have c1 := row_cell hr 1 (by omega)
        by_cases q1 : (p.getD 1 0).toNat < 128
        · rw [if_pos ⟨by omega, .inl q1⟩]
          by_cases l2 : p.length = 2
          · rw [l2]; exact full_3_bad1a_2 g o c _ _ w c0 c1 (by omega) ct cl ch q1
          · omega
        · by_cases q2 : 191 < (p.getD 1 0).toNat
          · rw [if_pos ⟨by omega, .inr q2⟩]
            by_cases l2 : p.length = 2
            · rw [l2]; exact full_3_bad1b_2 g o c _ _ w c0 c1 (by omega) ct cl ch q2
            · omega
          · rw [if_neg (by omega)]
            by_cases l2 : p.length = 2
            · rw [if_neg (by omega), l2]; exact full_3_2 g o c _ _ w c0 c1 (by omega) ct cl ch q1 q2
            · omega
  · rw [hx] at ct
    have cl := (hT.2 2 (by omega)).1
    have ch := (hT.2 2 (by omega)).2
    rw [show Lib.accLo 2 = 128 from rfl] at cl
    rw [show Lib.accHi 2 = 159 from rfl] at ch
    rw [fullM_ne h0 _ hx, show (35 / 16 : Nat) = 2 from rfl, show (35 % 8 : Nat) = 3 from rfl, show Lib.accLo 2 = 128 from rfl, show Lib.accHi 2 = 159 from rfl]
    by_cases hl : 3 ≤ p.length
    · rw [if_pos hl]
      exact full_35_long g o p.length c _ w hl c0 (by omega) ct
    · rw [if_neg hl]
      by_cases l1 : p.length = 1
      · rw [if_neg (by omega), if_neg (by omega), l1]
        exact full_35_1 g o c _ w c0 (by omega) ct cl ch
      · have c1 := row_cell hr 1 (by omega)
        by_cases q1 : (p.getD 1 0).toNat < 128
        · rw [if_pos ⟨by omega, .inl q1⟩]
          by_cases l2 : p.length = 2
          · rw [l2]; exact full_35_bad1a_2 g o c _ _ w c0 c1 (by omega) ct cl ch q1
          · omega
        · by_cases q2 : 159 < (p.getD 1 0).toNat
          · rw [if_pos ⟨by omega, .inr q2⟩]
            by_cases l2 : p.length = 2
            · rw [l2]; exact full_35_bad1b_2 g o c _ _ w c0 c1 (by omega) ct cl ch q2
            · omega
          · rw [if_neg (by omega)]
            by_cases l2 : p.length = 2
            · rw [if_neg (by omega), l2]; exact full_35_2 g o c _ _ w c0 c1 (by omega) ct cl ch q1 q2
            · omega
  · rw [hx] at ct
    have cl := (hT.2 3 (by omega)).1
    have ch := (hT.2 3 (by omega)).2
    rw [show Lib.accLo 3 = 144 from rfl] at cl
    rw [show Lib.accHi 3 = 191 from rfl] at ch
    rw [fullM_ne h0 _ hx, show (52 / 16 : Nat) = 3 from rfl, show (52 % 8 : Nat) = 4 from rfl, show Lib.accLo 3 = 144 from rfl, show Lib.accHi 3 = 191 from rfl]
    by_cases hl : 4 ≤ p.length
    · rw [if_pos hl]
      exact full_52_long g o p.length c _ w hl c0 (by omega) ct
    · rw [if_neg hl]
      by_cases l1 : p.length = 1
      · rw [if_neg (by omega), if_neg (by omega), l1]
        exact full_52_1 g o c _ w c0 (by omega) ct cl ch
      · have c1 := row_cell hr 1 (by omega)
        by_cases q1 : (p.getD 1 0).toNat < 144
        · rw [if_pos ⟨by omega, .inl q1⟩]
          by_cases l2 : p.length = 2
          · rw [l2]; exact full_52_bad1a_2 g o c _ _ w c0 c1 (by omega) ct cl ch q1
          · have l3 : p.length = 3 := by omega
            rw [l3]; exact full_52_bad1a_3 g o c _ _ w c0 c1 (by omega) ct cl ch q1
        · by_cases q2 : 191 < (p.getD 1 0).toNat
          · rw [if_pos ⟨by omega, .inr q2⟩]
            by_cases l2 : p.length = 2
            · rw [l2]; exact full_52_bad1b_2 g o c _ _ w c0 c1 (by omega) ct cl ch q2
            · have l3 : p.length = 3 := by omega
              rw [l3]; exact full_52_bad1b_3 g o c _ _ w c0 c1 (by omega) ct cl ch q2
          · rw [if_neg (by omega)]
            by_cases l2 : p.length = 2
            · rw [if_neg (by omega), l2]; exact full_52_2 g o c _ _ w c0 c1 (by omega) ct cl ch q1 q2
            · have l3 : p.length = 3 := by omega
              have c2 := row_cell hr 2 (by omega)
              by_cases q3 : (p.getD 2 0).toNat < 128
              · rw [if_pos ⟨by omega, .inl q3⟩, l3]; exact full_52_bad2a g o c _ _ _ w c0 c1 c2 (by omega) ct cl ch q1 q2 q3
              · by_cases q4 : 191 < (p.getD 2 0).toNat
                · rw [if_pos ⟨by omega, .inr q4⟩, l3]; exact full_52_bad2b g o c _ _ _ w c0 c1 c2 (by omega) ct cl ch q1 q2 q4
                · rw [if_neg (by omega), l3]; exact full_52_3 g o c _ _ _ w c0 c1 c2 (by omega) ct cl ch q1 q2 q3 q4
  · rw [hx] at ct
    have cl := (hT.2 0 (by omega)).1
    have ch := (hT.2 0 (by omega)).2
    rw [show Lib.accLo 0 = 128 from rfl] at cl
    rw [show Lib.accHi 0 = 191 from rfl] at ch
    rw [fullM_ne h0 _ hx, show (4 / 16 : Nat) = 0 from rfl, show (4 % 8 : Nat) = 4 from rfl, show Lib.accLo 0 = 128 from rfl, show Lib.accHi 0 = 191 from rfl]
    by_cases hl : 4 ≤ p.length
    · rw [if_pos hl]
      exact full_4_long g o p.length c _ w hl c0 (by omega) ct
    · rw [if_neg hl]
      by_cases l1 : p.length = 1
      · rw [if_neg (by omega), if_neg (by omega), l1]
        exact full_4_1 g o c _ w c0 (by omega) ct cl ch
      · have c1 := row_cell hr 1 (by omega)
        by_cases q1 : (p.getD 1 0).toNat < 128
        · rw [if_pos ⟨by omega, .inl q1⟩]
          by_cases l2 : p.length = 2
          · rw [l2]; exact full_4_bad1a_2 g o c _ _ w c0 c1 (by omega) ct cl ch q1
          · have l3 : p.length = 3 := by omega
            rw [l3]; exact full_4_bad1a_3 g o c _ _ w c0 c1 (by omega) ct cl ch q1
        · by_cases q2 : 191 < (p.getD 1 0).toNat
          · rw [if_pos ⟨by omega, .inr q2⟩]
            by_cases l2 : p.length = 2
            · rw [l2]; exact full_4_bad1b_2 g o c _ _ w c0 c1 (by omega) ct cl ch q2
            · have l3 : p.length = 3 := by omega
              rw [l3]; exact full_4_bad1b_3 g o c _ _ w c0 c1 (by omega) ct cl ch q2
          · rw [if_neg (by omega)]
            by_cases l2 : p.length = 2
            · rw [if_neg (by omega), l2]; exact full_4_2 g o c _ _ w c0 c1 (by omega) ct cl ch q1 q2
            · have l3 : p.length = 3 := by omega
              have c2 := row_cell hr 2 (by omega)
              by_cases q3 : (p.getD 2 0).toNat < 128
              · rw [if_pos ⟨by omega, .inl q3⟩, l3]; exact full_4_bad2a g o c _ _ _ w c0 c1 c2 (by omega) ct cl ch q1 q2 q3
              · by_cases q4 : 191 < (p.getD 2 0).toNat
                · rw [if_pos ⟨by omega, .inr q4⟩, l3]; exact full_4_bad2b g o c _ _ _ w c0 c1 c2 (by omega) ct cl ch q1 q2 q4
                · rw [if_neg (by omega), l3]; exact full_4_3 g o c _ _ _ w c0 c1 c2 (by omega) ct cl ch q1 q2 q3 q4
  · rw [hx] at ct
    have cl := (hT.2 4 (by omega)).1
    have ch := (hT.2 4 (by omega)).2
    rw [show Lib.accLo 4 = 128 from rfl] at cl
    rw [show Lib.accHi 4 = 143 from rfl] at ch
    rw [fullM_ne h0 _ hx, show (68 / 16 : Nat) = 4 from rfl, show (68 % 8 : Nat) = 4 from rfl, show Lib.accLo 4 = 128 from rfl, show Lib.accHi 4 = 143 from rfl]
    by_cases hl : 4 ≤ p.length
    · rw [if_pos hl]
      exact full_68_long g o p.length c _ w hl c0 (by omega) ct
    · rw [if_neg hl]
      by_cases l1 : p.length = 1
      · rw [if_neg (by omega), if_neg (by omega), l1]
        exact full_68_1 g o c _ w c0 (by omega) ct cl ch
      · have c1 := row_cell hr 1 (by omega)
        by_cases q1 : (p.getD 1 0).toNat < 128
        · rw [if_pos ⟨by omega, .inl q1⟩]
          by_cases l2 : p.length = 2
          · rw [l2]; exact full_68_bad1a_2 g o c _ _ w c0 c1 (by omega) ct cl ch q1
          · have l3 : p.length = 3 := by omega
            rw [l3]; exact full_68_bad1a_3 g o c _ _ w c0 c1 (by omega) ct cl ch q1
        · by_cases q2 : 143 < (p.getD 1 0).toNat
          · rw [if_pos ⟨by omega, .inr q2⟩]
            by_cases l2 : p.length = 2
            · rw [l2]; exact full_68_bad1b_2 g o c _ _ w c0 c1 (by omega) ct cl ch q2
            · have l3 : p.length = 3 := by omega
              rw [l3]; exact full_68_bad1b_3 g o c _ _ w c0 c1 (by omega) ct cl ch q2
          · rw [if_neg (by omega)]
            by_cases l2 : p.length = 2
            · rw [if_neg (by omega), l2]; exact full_68_2 g o c _ _ w c0 c1 (by omega) ct cl ch q1 q2
            · have l3 : p.length = 3 := by omega
              have c2 := row_cell hr 2 (by omega)
              by_cases q3 : (p.getD 2 0).toNat < 128
              · rw [if_pos ⟨by omega, .inl q3⟩, l3]; exact full_68_bad2a g o c _ _ _ w c0 c1 c2 (by omega) ct cl ch q1 q2 q3
              · by_cases q4 : 191 < (p.getD 2 0).toNat
                · rw [if_pos ⟨by omega, .inr q4⟩, l3]; exact full_68_bad2b g o c _ _ _ w c0 c1 c2 (by omega) ct cl ch q1 q2 q4
                · rw [if_neg (by omega), l3]; exact full_68_3 g o c _ _ _ w c0 c1 c2 (by omega) ct cl ch q1 q2 q3 q4
end Go.Proofs.YtancmlapnhccdaaDoor
