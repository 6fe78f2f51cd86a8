/- Run as far as the reference tells; a list of calls that carry no bytes; answers as cells. -/
import Derived.Test.YtancmlapnhccdaaDoorRrn
import Derived.Test.YtancmlapnhccdaaDoorLwt
namespace Go.Proofs.YtancmlapnhccdaaDoor
open Go.RowKit

/-! ### plain -/
def SR.run (r : SR) : List CallD → List OutD × Bool
  | [] => ([], true)
  | c :: cs => ((r.call c).2.1 :: ((r.call c).1.run cs).1, (r.call c).2.2 && ((r.call c).1.run cs).2)
theorem run_agree : ∀ (cs : List CallD) (r : SR) (s : RS) (t : WS), Agree r s → (∀ c ∈ cs, isRd c) → (r.run cs).2 = true → (runM s t cs).2.2 = (r.run cs).1
  | [], _, _, _, _, _, _ => rfl
  | c :: cs, r, s, t, h, hc, ht => by
    simp only [SR.run, Bool.and_eq_true] at ht
    obtain ⟨h1, h2⟩ := agree h c ht.1
    have hx : callM s t c = ((rdCall s c).1, t, (rdCall s c).2) := by unfold callM; rw [if_pos (hc c (List.mem_cons_self ..))]
    have := run_agree cs (r.call c).1 (rdCall s c).1 t h2 (fun c' h' => hc c' (List.mem_cons_of_mem _ h')) ht.2
    simp only [runM, hx, SR.run, h1, this]
def sr0 (data : List UInt8) : SR := ⟨data, 0, false, 0, false⟩
theorem new_ok (n : Nat) (hn : n ≤ 255) (ps : List (List UInt8)) : (newReader (rsize n) ps).Ok := by
  have hlen : (newReader (rsize n) ps).buf.length = rsize n := zeros_length _
  exact ⟨Nat.le_refl _, Nat.zero_le _, by rw [hlen]; unfold rsize; omega, by rw [hlen]; unfold rsize; omega, by simp [newReader], by simp [newReader], by simp [newReader], by simp [newReader]⟩
theorem agree_new (n : Nat) (hn : n ≤ 255) (ps : List (List UInt8)) : Agree (sr0 ps.flatten) (newReader (rsize n) ps) where
  ok := new_ok n hn ps
  left := by simp [left, avail, newReader, SR.rest, sr0]
  eof := by simp [newReader]
  pos := by simp [sr0]
  nb := fun _ _ => by simp [newReader]
  yb := fun _ h => by simp [sr0] at h
  nr := fun _ _ => by simp [newReader]
  yr := fun _ h => by simp [sr0] at h

/-! ### calls that carry no bytes -/
def bare (kind n : Int) : CallD := ⟨kind, n, 0, []⟩
def bareCells (ks : List (Int × Int)) : List Value := ks.flatMap fun k => [.int .i64 k.1, .int .i64 k.2, .int .u8 0, .slice none 0 0]
def bares (ks : List (Int × Int)) : List CallD := ks.map fun k => bare k.1 k.2
theorem bareCells_get : ∀ (ks : List (Int × Int)) (j : Nat) (k : Int × Int), ks[j]? = some k → ∀ (i : Nat) (u : Value), (callCells (bare k.1 k.2) none 0)[i]? = some u → (bareCells ks)[j * 4 + i]? = some u
  | [], j, k, h, _, _, _ => by simp at h
  | k0 :: ks, 0, k, h, i, u, hu => by
    simp only [List.getElem?_cons_zero, Option.some.injEq] at h
    subst h
    match i, hu with
    | 0, hu => simpa [callCells, bare, bareCells] using hu
    | 1, hu => simpa [callCells, bare, bareCells] using hu
    | 2, hu => simpa [callCells, bare, bareCells] using hu
    | 3, hu => simpa [callCells, bare, bareCells] using hu
    | i + 4, hu => simp [callCells] at hu
  | k0 :: ks, j + 1, k, h, i, u, hu => by
    rw [List.getElem?_cons_succ] at h
    have := bareCells_get ks j k h i u hu
    have e : (j + 1) * 4 + i = (j * 4 + i) + 4 := by omega
    rw [e]
    simpa [bareCells] using this
theorem bareCells_len : ∀ ks : List (Int × Int), (bareCells ks).length = ks.length * 4
  | [] => rfl
  | k :: ks => by
    have := bareCells_len ks
    unfold bareCells at *
    simp only [List.flatMap_cons, List.length_append, List.length_cons, List.length_nil, this]
    omega
theorem calls_new (w : World) (ks : List (Int × Int)) (hk : ∀ k ∈ ks, k.2 ≤ 9223372036854775807) : CallsAt (w.alloc (.cells (bareCells ks).toArray 34)) (w.alloc (.cells (bareCells ks).toArray 34)).heap.size (some ⟨w.heap.size, 0, none⟩) (bares ks) := by
  refine ⟨bareCells ks, ⟨by simp [bareCells_len, bares], fun _ => ⟨_, rfl, by simp, fun j u hj => ?_⟩⟩, fun j c hj => ?_⟩
  · rw [add_mk, Nat.zero_add, (Blk.new w 34 (bareCells ks).toArray).cell j]
    simpa using hj
  · unfold bares at hj
    rw [List.getElem?_map] at hj
    obtain ⟨k, h1, rfl⟩ := Option.map_eq_some_iff.1 hj
    exact ⟨hk k (List.mem_of_getElem? h1), none, 0, Reads.none_, bareCells_get ks j k h1⟩
theorem bares_len (ks : List (Int × Int)) : callsLen (bares ks) = 4 * ks.length := by
  unfold callsLen bares
  induction ks with
  | nil => rfl
  | cons k ks ih => simp only [List.map_cons, List.sum_cons, List.length_cons, bare, List.length_nil] at *; omega

theorem run_bares (E : Nat → Addr) (n : Nat) (hn : n ≤ 255) (A : Option Addr) (c : Nat) (ps : List (List UInt8)) (ks : List (Int × Int)) {w w1 : World} (hE : Env w w.heap.size E) (ht : Lib.Utf8Tabs 9 10 w) (hp : PiecesAt w w.heap.size A ps)
    (hroom : Room (ps.flatten.length + 255)) (hl : Room ps.length) (hb : Below w.heap.size w w1) (hk : ∀ k ∈ ks, k.2 ≤ 9223372036854775807) (hks : ks.length ≤ 1000) :
    Calls Tryd.prog 23 #[.int .u8 (n : Nat), .slice A ps.length c, .slice (some ⟨w1.heap.size, 0, none⟩) ks.length ks.length] (w1.alloc (.cells (bareCells ks).toArray 34))
      (Ran (runM (newReader (rsize n) ps) ⟨zeros (wsize n), 0, []⟩ (bares ks)).2.2 (runM (newReader (rsize n) ps) ⟨zeros (wsize n), 0, []⟩ (bares ks)).2.1.got (w1.alloc (.cells (bareCells ks).toArray 34))) := by
  have hb1 : Below w.heap.size w (w1.alloc (.cells (bareCells ks).toArray 34)) := hb.alloc hb.size _
  have h := run23 E n hn A c ps (some ⟨w1.heap.size, 0, none⟩) ks.length (bares ks) _ ((hE.below hb1).more hb1.size) (tabs_keep ht (Keep.ofBelow hb1 (fun _ => False)) (fun _ h => h.elim) hE.five) ((hp.below hb1).more hb1.size) (calls_new w1 ks hk) hroom hl (by rw [bares_len]; unfold Room; omega)
  have hl : (bares ks).length = ks.length := by simp [bares]
  rw [hl] at h
  exact h

theorem law_below {w w1 w2 : World} {o : Obj} (h1 : Below w.heap.size w w1) (h2 : Below (w1.alloc o).heap.size (w1.alloc o) w2) : Below w.heap.size w w2 :=
  (h1.alloc h1.size _).trans (h2.mono (by have := h1.size; simp; omega))

/-! ### answers as cells -/
theorem own_some {w : World} {N n size c : Nat} {e : TypeId} {a : Option Addr} {xs : List Value} (h : w.ownsRow N e size (.slice a n c) n xs) (hn : 0 < n) : ∃ g, a = some ⟨g, 0, none⟩ := by
  obtain ⟨g, cap, hv, _⟩ := h.form hn
  injection hv with h1
  exact ⟨g, h1⟩
theorem out_cells {w : World} {N g c : Nat} {X : Nat → Prop} {os : List OutD} {flat : List Value} (ho : w.ownsRow N 36 3 (.slice (some ⟨g, 0, none⟩) os.length c) os.length flat) (hx : OutsAt w X flat os) (j : Nat) (o : OutD) (hj : os[j]? = some o) :
    ∃ A' c', w.cell? ⟨g, j * 3, none⟩ = some (.slice A' o.bytes.length c') ∧ w.cell? ⟨g, j * 3 + 1, none⟩ = some (.int .i64 o.n) ∧ w.cell? ⟨g, j * 3 + 2, none⟩ = some (.int .i64 ((o.err : Nat) : Int)) ∧ Reads w w.heap.size 1 A' o.bytes.length (bvs o.bytes) := by
  obtain ⟨A', c', he, hr, _⟩ := hx j o hj
  have hc := ho.cells (g := g) rfl
  have at_ : ∀ i u, (outCells A' o.bytes.length c' o.n ((o.err : Nat) : Int)).toList[i]? = some u → w.cell? ⟨g, j * 3 + i, none⟩ = some u := by
    intro i u hu
    rw [← he, List.getElem?_take, List.getElem?_drop] at hu
    split at hu
    · have := hc (j * 3 + i) u hu
      rw [add_mk, Nat.zero_add] at this
      exact this
    · cases hu
  exact ⟨A', c', at_ 0 _ rfl, at_ 1 _ rfl, at_ 2 _ rfl, hr⟩
end Go.Proofs.YtancmlapnhccdaaDoor
