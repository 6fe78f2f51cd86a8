/-
  PROVED HERE: the law 'FnRunesWritten' of the package laws returns true, and what lay in memory before the call reads behind it as before. CONDITION: the arguments hold together at most 1048576 values and letters, each counted each time it is reached (the second form, as a tied card). Printed by gen_card.py.
-/
import Derived.Test.YtancmlapnhccdaaDoorOpi
import Derived.Test.YtancmlapnhccdaaDoorLtb
import Derived.Test.YtancmlapnhccdaaDoorLrw
import Derived.Test.YtancmlapnhccdaaDoorHead
namespace Go.Proofs.YtancmlapnhccdaaDoor.fnRunesWritten
open Go.ChangeShapes Go.WideShapes Go.ChangeAt Go.RowKit

theorem laidFive : Rows.fnRunesWrittenUptoRow.laid.filter isFive = five := by kernel_rfl
theorem laidTwo : Rows.fnRunesWrittenUptoRow.laid.filter isTwo = two := by kernel_rfl

set_option maxRecDepth 100000 in
theorem contract (H : Type) (enc : TypeId × Value → H) (W : World) (base : Nat) (args : Array Value) (ds gs : List (DataW H)) (before : List MemPlace)
    (hval : ∀ (j : Nat) t v, Tryd.f19.params[j]? = some t → args[j]? = some v → Value.okWide Tryd.prog W .any base t v)
    (hW : DataW.Whole enc Tryd.prog Tryd.f19.params.toList Rows.fnRunesWrittenSpec.vars false W args.toList ds gs before) (hk : Rows.uptoSmall H (ds ++ gs) = true)
    (hL : laidMetH Tryd.prog Rows.fnRunesWrittenUptoRow.laid W) (hsh : W.ShapedOpen Tryd.prog) :
    Calls Tryd.prog 19 args W fun e W' => ∃ v, e = .returned v ∧ Rows.fnRunesWrittenSpec.post enc Tryd.prog Tryd.f19 false true false false W args v W' := by
  have hW' := hW
  obtain ⟨p, q, hA0, hV, rfl, hfz, hnd⟩ := hW
  have hA : DataW.TrodAll enc Tryd.prog W 0 (fun _ => true) true Tryd.f19.params.toList args.toList ds p := hA0
  rw [Tryd.params19] at hA hval
  obtain ⟨v0, vs0, d0, ds0, p0, q0, hargs, rfl, rfl, h0, r0⟩ := trodAll_cons hA
  obtain ⟨v1, vs1, d1, ds1, p1, q1, rfl, rfl, rfl, h1, r1⟩ := trodAll_cons r0
  obtain ⟨rfl, rfl, rfl⟩ := trodAll_nil r1
  obtain rfl : args = #[v0, v1] := by cases args; simp_all
  obtain ⟨rfl, rfl⟩ := trodVars_none hV
  obtain ⟨n0, hn0, rfl⟩ := open_byte' Tryd.underlying5 (hval 0 5 v0 rfl rfl) h0
  obtain ⟨A1, xs1, c1, rfl, hp1, hxb1, hbk1⟩ := open_i32s' Tryd.underlying54 Tryd.underlying21 cells21 (hval 1 54 v1 rfl rfl) h1
  obtain ⟨E, hE⟩ := env_laid laidFive hL hsh
  have htb := tabs_laid laidTwo hL
  have hb := of_decide_eq_true hk
  simp only [List.append_nil, Rows.uptoBulkAll] at hb
  refine (law19 E n0 hn0 A1 c1 xs1 W hE htb hp1 hxb1 (show Room (100 * xs1.length + 1000) by unfold Room; omega)).mono fun e W' ⟨he, hbl⟩ => ?_
  subst he
  refine ⟨_, rfl, post_true hW' rfl rfl rfl ?_ hbl⟩
  rw [Tryd.params19]
  intro t ht
  simp at ht
  first | (rcases ht with rfl | rfl <;> exact ⟨by kernel_rfl, of_decide_eq_true (by kernel_rfl)⟩)

theorem laid_met (os : Os) : laidMet Tryd.prog Rows.fnRunesWrittenUptoRow.laid ((World.laidAll Tryd.prog os Rows.fnRunesWrittenUptoRow.laid).forCall (fun _ _ => 0) ⟨#[], #[.int .u8 0, .slice none 0 0], []⟩).memory :=
  laidMet_laidAll _ (by kernel_rfl) (by kernel_rfl)
theorem reads (os : Os) {H : Type} (enc : TypeId × Value → H) : ∃ places, DataW.whole enc Tryd.prog ((World.laidAll Tryd.prog os Rows.fnRunesWrittenUptoRow.laid).forCall (fun _ _ => 0) ⟨#[], #[.int .u8 0, .slice none 0 0], []⟩).memory Tryd.f19.params.toList Rows.fnRunesWrittenSpec.vars false #[Value.int .u8 0, .slice none 0 0].toList 8 = some ([.lit (.int .u8 0), .nil], [], places) :=
  ⟨[], by kernel_rfl⟩
theorem shaped (os : Os) : ((World.laidAll Tryd.prog os Rows.fnRunesWrittenUptoRow.laid).forCall (fun _ _ => 0) ⟨#[], #[.int .u8 0, .slice none 0 0], []⟩).Shaped Tryd.prog :=
  World.shaped_of_ZipB (by kernel_rfl) (by kernel_rfl)

set_option maxRecDepth 100000 in
theorem liftedUpto (os : Os) (started : os.Started) (H : Type) (enc : TypeId × Value → H) (F : Stop.Interp) :
    ReturnsInHanded {} Tryd.checked os 19 .any ((Rows.OpenSpec.upto Rows.fnRunesWrittenSpec).preRow enc Tryd.prog Tryd.f19 Rows.fnRunesWrittenUptoRow.domain false Rows.fnRunesWrittenUptoRow.laid) (((Rows.OpenSpec.upto Rows.fnRunesWrittenSpec).at F).post enc Tryd.prog Tryd.f19 false true false false) := by
  obtain ⟨places, hx⟩ := reads os enc
  have hok : Input.okWideB Tryd.prog ((World.laidAll Tryd.prog os Rows.fnRunesWrittenUptoRow.laid).forCall (fun _ _ => 0) ⟨#[], #[.int .u8 0, .slice none 0 0], []⟩) 19 ⟨#[], #[.int .u8 0, .slice none 0 0], []⟩ = true := by kernel_rfl
  refine returnsInHanded_of_row (C := Tryd.checked) (s := Rows.OpenSpec.upto Rows.fnRunesWrittenSpec) ownT started (by kernel_rfl) Tryd.func19
    ⟨World.laidAll Tryd.prog os Rows.fnRunesWrittenUptoRow.laid, fun _ _ => 0, ⟨#[], #[.int .u8 0, .slice none 0 0], []⟩, World.laidAll_os _ _ _, shaped os, (Input.okWide_of_okWideB (base := 0) hok).1, (Input.okWide_of_okWideB hok).2,
      OpenSpec.preRow_of_cond 8 hx (by kernel_rfl) (fun k hk => by cases hk; kernel_rfl) (by kernel_rfl) (laid_met os), by
        simp only [Assume.holds]
        exact ⟨by simp, by simp, fun _ => Modest.zero, by simp, by simp⟩⟩ ?_
  intro W base args ds gs before hval hW _ hcond _ hL hsh _
  exact contract H enc W base args ds gs before hval hW (hcond _ rfl) hL hsh

theorem named19 : Tryd.pinned.checked.prog.funcNamed Rows.fnRunesWrittenUptoRow.func = some 19 := by kernel_rfl
theorem closed : joinedFacts Tryd.prog 19 Tryd.f19 (Rows.OpenSpec.upto Rows.fnRunesWrittenSpec).bare Rows.fnRunesWrittenUptoRow = true := by
  unfold joinedFacts
  rw [hMay, hLifts, hMake, hLaidOut, hMaps, hKeys, hHeard]
  kernel_rfl
theorem inst : Tryd.f19.isInstance Tryd.pinned.checked.prog Rows.fnRunesWrittenUptoRow.origin Rows.fnRunesWrittenUptoRow.targs := of_decide_eq_true (by kernel_rfl)
theorem wrapper : Tryd.f19.isWrapper Tryd.pinned.checked.prog Rows.fnRunesWrittenUptoRow.wrapper Rows.fnRunesWrittenUptoRow.mainSum := by
  unfold Func.isWrapper; first | (rw [if_pos (by decide +kernel)]; kernel_rfl) | (rw [if_neg (by decide +kernel)]; exact ⟨rfl, rfl⟩)
theorem saidUpto : Rows.FnRunesWrittenUptoSaid :=
  OpenClaim.holds_of_cond 19 Tryd.f19 rfl rfl rfl rfl rfl rfl rfl ⟨rfl, rfl, rfl, rfl, rfl⟩ rfl rfl rfl rfl rfl named19 Tryd.func19 closed inst wrapper
    (fun os started H enc _ F => by rw [OpenClaim.pre_eq_preRow]; exact liftedUpto os started H enc F)

theorem plain (f : FuncId) (fn : Func) (hf : Tryd.pinned.checked.prog.funcNamed "loop.example/lib-g03117/laws.FnRunesWritten" = some f) (hfn : Tryd.pinned.checked.prog.funcs[f]? = some fn) :
    true = Tryd.pinned.checked.prog.looks [] ∧ ∀ (j : Nat) t, fn.params[j]? = some t → Tryd.pinned.checked.prog.wantsStandIn t = false := by
  obtain rfl : f = 19 := Option.some.inj ((show Tryd.prog.funcNamed "loop.example/lib-g03117/laws.FnRunesWritten" = some 19 by kernel_rfl).symm.trans hf) |>.symm
  obtain rfl : fn = Tryd.f19 := (Option.some.inj (Tryd.func19.symm.trans hfn)).symm
  refine ⟨hLooks, fun j t ht => ?_⟩
  rw [Tryd.params19] at ht
  have hm : t ∈ [5, 54] := by simpa using Array.mem_of_getElem? ht
  have hall : ([5, 54].all fun u => !Tryd.prog.wantsStandIn u) = true := by kernel_rfl
  exact (show Tryd.prog.wantsStandIn t = false by simpa using List.all_eq_true.1 hall t hm)

theorem proved : Rows.FnRunesWrittenUptoCardSaid :=
  Claim7.holds_tied_plain_at .later [] _ _ _ _ saidUpto (fun _ h => by cases h) (by kernel_rfl) (fun _ h => by cases h) fnRunesWrittenUpto_row_tie rfl ⟨rfl, rfl⟩ hMain rfl plain (by kernel_rfl)
end Go.Proofs.YtancmlapnhccdaaDoor.fnRunesWritten
