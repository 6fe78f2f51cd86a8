/- spec.Runes, laws.FnRunes: the walks. -/
import Derived.Test.YtancmlapnhccdaaDoorObs
namespace Go.Proofs.YtancmlapnhccdaaDoor
open Go.RowKit

theorem Tryd.info3 : (Tryd.prog.info? 3).map (fun i => (i.zero, i.size, i.bytes)) = some (some (.int .i64 0), 1, 8) := by kernel_rfl

/-- numbers as cells -/
def nv (n : Nat) : Value := .int .i64 (n : Int)
def nvs (l : List Nat) : List Value := l.map nv
theorem nvs_one (l : List Nat) : ∀ u ∈ nvs l, u.oneCell' = true := by
  intro u hu
  obtain ⟨b, _, rfl⟩ := List.mem_map.1 hu
  rfl
theorem nvs_append (l m : List Nat) : nvs (l ++ m) = nvs l ++ nvs m := by simp [nvs]
theorem nvs_get (l : List Nat) (j : Nat) : (nvs l)[j]? = l[j]?.map nv := by simp [nvs]
theorem num_reads (w2 : World) (x : Int) : Reads (w2.alloc (.cells #[.int .i64 x] 3)) (w2.alloc (.cells #[.int .i64 x] 3)).heap.size 1 (some ⟨w2.heap.size, 0, none⟩) 1 [.int .i64 x] := by
  refine ⟨rfl, fun _ => ⟨_, rfl, by simp, fun j v hj => ?_⟩⟩
  rw [add_mk, Nat.zero_add, (Blk.new w2 3 #[.int .i64 x]).cell j]
  rw [← hj]
  simp
theorem num_one (x : Int) : ∀ u ∈ [Value.int .i64 x], u.oneCell' = true := by intro u hu; simp at hu; subst hu; rfl

/-- what spec.Runes gives -/
def Runes30 (l : List UInt8) (w : World) (e : Ending) (w' : World) : Prop :=
  ∃ a1 c1 a2 c2, e = .returned (.tuple #[.slice a1 (runesL l).length c1, .slice a2 (runesL l).length c2]) ∧ w'.ownsRow w.heap.size 3 1 (.slice a1 (runesL l).length c1) (runesL l).length (nvs ((runesL l).map (·.1))) ∧ w'.ownsRow w.heap.size 3 1 (.slice a2 (runesL l).length c2) (runesL l).length (nvs ((runesL l).map (·.2))) ∧ Below w.heap.size w w'

/-- what has been taken, and what is left -/
def RuRel (l : List UInt8) (B : Nat) (w : World) (k : Nat) (t0 t4 t5 : Value) (wr : World) : Prop :=
  ∃ (done_ : List (Nat × Nat)) (rest : List UInt8) (A : Option Addr) (c : Nat) (a1 : Option Addr) (c1 : Nat) (a2 : Option Addr) (c2 : Nat), t0 = .slice A rest.length c ∧ rest.length ≤ c ∧ (A = none → c = 0) ∧ Reads wr B 1 A rest.length (bvs rest) ∧ runesL l = done_ ++ runesL rest ∧ done_.length + rest.length ≤ l.length ∧
    t4 = .slice a1 done_.length c1 ∧ t5 = .slice a2 done_.length c2 ∧ wr.ownsRow w.heap.size 3 1 (.slice a1 done_.length c1) done_.length (nvs (done_.map (·.1))) ∧ wr.ownsRow w.heap.size 3 1 (.slice a2 done_.length c2) done_.length (nvs (done_.map (·.2))) ∧
    (∀ g, (Value.slice a1 done_.length c1).ownBlock = some g → (Value.slice a2 done_.length c2).ownBlock ≠ some g) ∧ Below w.heap.size w wr ∧ k = rest.length

theorem ru_start (l : List UInt8) (A : Option Addr) (c : Nat) (w : World) (h : Reads w w.heap.size 1 A l.length (bvs l)) (hc : l.length ≤ c) (hn : A = none → c = 0) : RuRel l w.heap.size w l.length (.slice A l.length c) (.slice (some ⟨w.heap.size, 0, none⟩) 0 0) (.slice (some ⟨w.heap.size + 1, 0, none⟩) 0 0) ((w.alloc (.cells #[] 3)).alloc (.cells #[] 3)) := by
  have h1 := World.ownsRow_made (e := 3) (size := 1) (base := w.heap.size) w #[] 0 (Nat.le_refl _) (by simp [maxLen]) (by simp)
  have h1' := own_keep h1 ((Keep.refl (fun _ => False) _).alloc (.cells #[] 3)) (fun _ _ h => h)
  have h2 := World.ownsRow_made (e := 3) (size := 1) (base := w.heap.size) (w.alloc (.cells #[] 3)) #[] 0 (by simp) (by simp [maxLen]) (by simp)
  have e2 : (w.alloc (.cells #[] 3)).heap.size = w.heap.size + 1 := by simp
  rw [e2] at h2
  have hb : Below w.heap.size w ((w.alloc (.cells #[] 3)).alloc (.cells #[] 3)) := ((Below.refl _ _).alloc (Nat.le_refl _) _).alloc (by simp) _
  refine ⟨[], l, A, c, _, _, _, _, rfl, hc, hn, h.below hb, rfl, by simp, rfl, rfl, h1', h2, fun g hg hg2 => ?_, hb, rfl⟩
  simp [Value.ownBlock] at hg hg2
  omega

/-- a number has been put behind a row; another row is as it was -/
theorem nu_put {w wr d w5 : World} {v u v' : Value} {n m k : Nat} {xs ys zs : List Value} (h1 : wr.ownsRow w.heap.size 3 1 v n xs) (h2 : wr.ownsRow w.heap.size 3 1 u m ys) (hne : ∀ g, v.ownBlock = some g → u.ownBlock ≠ some g) (hb : Below w.heap.size w wr)
    (hd : Below wr.heap.size wr d) (_ho : w5.ownsRow w.heap.size 3 1 v' k zs) (hg : d.grownBy w5 v.ownBlock) (hat : v'.ownBlock = v.ownBlock ∨ v'.ownBlock = some d.heap.size) :
    w5.ownsRow w.heap.size 3 1 u m ys ∧ (∀ g, v'.ownBlock = some g → u.ownBlock ≠ some g) ∧ Below w.heap.size w w5 ∧ Below w.heap.size wr w5 := by
  have hk : Keep (fun k => v.ownBlock = some k) wr w5 := (Keep.ofBelow hd _).grown hg (fun k hk => .inl hk)
  have hB : Below w.heap.size wr w5 := hk.below (fun k e => (h1.lt k e).1) hb.size
  refine ⟨own_keep h2 hk (fun k e e' => hne k e' e), fun g hg' hu => ?_, hb.trans hB, hB⟩
  rcases hat with e | e
  · exact hne g (e ▸ hg') hu
  · rw [e] at hg'
    injection hg' with hg'
    have := (h2.lt g hu).2
    have := hd.size
    omega

set_option maxRecDepth 100000 in
set_option maxHeartbeats 2000000 in
theorem runes30 (l : List UInt8) (A : Option Addr) (c : Nat) (w : World) (h : Reads w w.heap.size 1 A l.length (bvs l)) (hc : l.length ≤ c) (hn : A = none → c = 0) (hroom : l.length + 10 ≤ 1000000000) :
    Calls Tryd.prog 30 #[.slice A l.length c] w (Runes30 l w) := by
  obtain ⟨i0, hi0, hz0, hz1, hz2⟩ := info_parts Tryd.info3
  have HI := Lib.hid (And.intro hi0 (And.intro hz0 (And.intro hz1 hz2))); clear hi0 hz0 hz1 hz2
  have HS := Lib.hid (ru_start l A c w h hc hn); clear h hc hn
  go_enter Tryd.func30, Tryd.ntmps30
  go_wp2_with fail
  go_loopg [0, 4, 5] l.length (fun k t0 t4 t5 wr => RuRel l w.heap.size w k t0 t4 t5 wr)
  case atStart => exact HS.out
  case round =>
    clear HS
    obtain ⟨dn, rest, A', c', a1, c1, a2, c2, ht0, hcc, hnn, hrd, hsp, hle, ht4, ht5, ho1, ho2, hne, hb, hk⟩ := hrel
    subst ht0 ht4 ht5
    have Hk := Lib.hid hk; clear hk
    by_cases h0 : rest = []
    · subst h0
      rw [runesL_nil, List.append_nil] at hsp
      have H := Lib.hid (And.intro ho1 (And.intro ho2 (And.intro hb hsp))); clear ho1 ho2 hb hsp hne hrd
      simp only [List.length_nil]
      go_wp2_with fail
      go_ret2
      unfold Runes30
      rw [H.out.2.2.2]
      exact ⟨a1, c1, a2, c2, rfl, H.out.1, H.out.2.1, H.out.2.2.1⟩
    · have hpos : 0 < rest.length := List.length_pos_iff.2 h0
      have hd := @dec_ge rest
      have hd2 := dec_le h0
      have hdr := dec_rune rest
      rw [runesL_cons rest h0] at hsp
      have hF := first40 A' c' rest w.heap.size wr hrd hcc h0
      have hcut := hrd.cut hd2.1 hcc
      simp only [Nat.mul_one] at hcut
      have hsl := slice_from A' rest.length c' (decM rest).2 hd2.1 hcc hnn
      have hrl : (rest.drop (decM rest).2).length = rest.length - (decM rest).2 := List.length_drop
      unfold First40 at hF
      obtain ⟨⟨rn, sz⟩, hx⟩ : ∃ x, x = decM rest := ⟨_, rfl⟩
      rw [← hx] at hsp hF hcut hsl hd hd2 hdr hrl
      simp only at hsp hF hcut hsl hd hd2 hdr hrl
      have hnil : cutS A' c' sz = none → c' - sz = 0 := by
        intro e
        unfold cutS at e
        split at e
        · omega
        · rcases A' with _ | ad
          · have := hnn rfl; omega
          · cases e
      obtain ⟨Ac, hAc⟩ : ∃ Ac, Ac = cutS A' c' sz := ⟨_, rfl⟩
      have hcut2 : Reads wr w.heap.size 1 Ac (rest.length - sz) (bvs (rest.drop sz)) := by rw [hAc, bvs_drop]; exact hcut
      rw [← hAc] at hsl hnil
      have hdl : dn.length + rest.length ≤ l.length := hle
      have hpb : decide (0 < rest.length) = true := by simpa using hpos
      have hb3 : Below wr.heap.size wr (wr.alloc (.cells #[.int .i64 (rn : Int)] 3)) := (Below.refl _ _).alloc (Nat.le_refl _) _
      have ho3 := own_keep ho1 (Keep.ofBelow hb3 (fun _ => False)) (fun _ _ h => h)
      have hr3 := num_reads wr (rn : Int)
      have hs3 : w.heap.size ≤ (wr.alloc (.cells #[.int .i64 (rn : Int)] 3)).heap.size := Nat.le_trans hb.size hb3.size
      have hrm : Room (dn.length + 1) := by unfold Room; omega
      have H := Lib.hid (And.intro ho1 (And.intro ho2 (And.intro hne (And.intro hb (And.intro hF (And.intro ho3 (And.intro hr3 (And.intro hs3 (And.intro hrm (And.intro hb3 (And.intro hsp (And.intro hcut2 (And.intro hnil hrl)))))))))))))
      clear ho1 ho2 hne hb hF ho3 hr3 hs3 hrm hb3 hsp hcut hcut2 hnil hrl hrd hnn hAc hx h0 hle
      go_wp2_with fail
      refine H.out.2.2.2.2.1.mono ?_
      rintro e w1 ⟨rfl, rfl⟩
      go_wp2_with (first | (at_builtin; refine wpList_append_any _ rfl (.tmp 18) (.tmp 20) _ rfl w.heap.size 3 i0 _ 1 8 Tryd.underlying51 HI.out.1 HI.out.2.1 HI.out.2.2.1 HI.out.2.2.2 rfl (by omega) (.slice a1 dn.length c1) dn.length (nvs (dn.map (·.1))) rfl H.out.2.2.2.2.2.1 _ _ 1 1 [.int .i64 (rn : Int)] rfl H.out.2.2.2.2.2.2.1 (num_one _) H.out.2.2.2.2.2.2.2.2.1.len (H.out.2.2.2.2.2.2.2.2.1.bytes 8 (by omega)) H.out.2.2.2.2.2.2.2.1 ?_; intro v4 w4 hown4 hg4 hat4; obtain ⟨b4, k4, hv4⟩ := own_slice hown4; subst hv4; have hz := nu_put H.out.1 H.out.2.1 H.out.2.2.1 H.out.2.2.2.1 H.out.2.2.2.2.2.2.2.2.2.1 hown4 hg4 hat4; have hb5 : Below w4.heap.size w4 (w4.alloc (.cells #[.int .i64 (sz : Int)] 3)) := (Below.refl _ _).alloc (Nat.le_refl _) _; have ho5 := own_keep hz.1 (Keep.ofBelow hb5 (fun _ => False)) (fun _ _ h => h); have hr5 := num_reads w4 (sz : Int); have hs5 : w.heap.size ≤ (w4.alloc (.cells #[.int .i64 (sz : Int)] 3)).heap.size := Nat.le_trans hz.2.2.1.size hb5.size; have H4 := Lib.hid (And.intro hown4 (And.intro hz (And.intro hb5 (And.intro ho5 (And.intro hr5 hs5))))); clear hown4 hg4 hat4 hz hb5 ho5 hr5 hs5) | (at_builtin; refine wpList_append_any _ rfl (.tmp 22) (.tmp 24) _ rfl w.heap.size 3 i0 _ 1 8 Tryd.underlying51 HI.out.1 HI.out.2.1 HI.out.2.2.1 HI.out.2.2.2 rfl (by omega) (.slice a2 dn.length c2) dn.length (nvs (dn.map (·.2))) rfl H4.out.2.2.2.1 _ _ 1 1 [.int .i64 (sz : Int)] rfl H4.out.2.2.2.2.1 (num_one _) H.out.2.2.2.2.2.2.2.2.1.len (H.out.2.2.2.2.2.2.2.2.1.bytes 8 (by omega)) H4.out.2.2.2.2.2 ?_; intro v6 w6 hown6 hg6 hat6; obtain ⟨b6, k6, hv6⟩ := own_slice hown6; subst hv6; have hz6 := nu_put H4.out.2.1.1 H4.out.1 (fun g h1 h2 => H4.out.2.1.2.1 g h2 h1) H4.out.2.1.2.2.1 H4.out.2.2.1 hown6 hg6 hat6; have H6 := Lib.hid (And.intro hown6 hz6); clear hown6 hg6 hat6 hz6))
      go_roundg (rest.length - sz)
      case measure => have := Hk.out; omega
      case rel =>
        obtain ⟨hown6, q1, q2, q3, q4⟩ := H6.out
        have hrl := H.out.2.2.2.2.2.2.2.2.2.2.2.2.2
        have hsp := H.out.2.2.2.2.2.2.2.2.2.2.1
        have hcut2 := H.out.2.2.2.2.2.2.2.2.2.2.2.1
        refine ⟨dn ++ [(rn, sz)], rest.drop sz, Ac, c' - sz, b4, k4, b6, k6, ?_, by rw [hrl]; omega, H.out.2.2.2.2.2.2.2.2.2.2.2.2.1, ?_, by rw [hsp, List.append_assoc]; rfl, ?_, ?_, ?_, ?_, ?_, ?_, q3, hrl.symm⟩
        · rw [hrl]
        · rw [hrl]; exact (hcut2.below H4.out.2.1.2.2.2).below q4
        · rw [hrl, List.length_append, List.length_singleton]; omega
        · rw [List.length_append, List.length_singleton]
        · rw [List.length_append, List.length_singleton]
        · rw [List.length_append, List.length_singleton, List.map_append, nvs_append]; exact q1
        · rw [List.length_append, List.length_singleton, List.map_append, nvs_append]; exact hown6
        · rw [List.length_append, List.length_singleton]
          exact fun g h1 h2 => q2 g h2 h1
end Go.Proofs.YtancmlapnhccdaaDoor
