/-
  PROVED HERE: the law 'FnSink' of the package laws returns true, and what lay in memory before the call reads behind it as before. CONDITION: the arguments hold together at most 1048576 values and letters, each counted each time it is reached (the second form, as a tied card). Printed by gen_card.py.
-/
import Derived.Test.YtancmlapnhccdaaDoorOpc
import Derived.Test.YtancmlapnhccdaaDoorLtb
import Derived.Test.YtancmlapnhccdaaDoorLsk
import Derived.Test.YtancmlapnhccdaaDoorHead
namespace Go.Proofs.YtancmlapnhccdaaDoor.fnSink
open Go.ChangeShapes Go.WideShapes Go.ChangeAt Go.RowKit

theorem laidFive : Rows.fnSinkUptoRow.laid.filter isFive = five := by kernel_rfl
theorem laidTwo : Rows.fnSinkUptoRow.laid.filter isTwo = two := by kernel_rfl

set_option maxRecDepth 100000 in
theorem contract (H : Type) (enc : TypeId × Value → H) (W : World) (base : Nat) (args : Array Value) (ds gs : List (DataW H)) (before : List MemPlace)
    (hval : ∀ (j : Nat) t v, Tryd.f20.params[j]? = some t → args[j]? = some v → Value.okWide Tryd.prog W .any base t v)
    (hW : DataW.Whole enc Tryd.prog Tryd.f20.params.toList Rows.fnSinkSpec.vars false W args.toList ds gs before) (hk : Rows.uptoSmall H (ds ++ gs) = true)
    (hL : laidMetH Tryd.prog Rows.fnSinkUptoRow.laid W) (hsh : W.ShapedOpen Tryd.prog) :
    Calls Tryd.prog 20 args W fun e W' => ∃ v, e = .returned v ∧ Rows.fnSinkSpec.post enc Tryd.prog Tryd.f20 false true false false W args v W' := by
  have hW' := hW
  obtain ⟨p, q, hA0, hV, rfl, hfz, hnd⟩ := hW
  have hA : DataW.TrodAll enc Tryd.prog W 0 (fun _ => true) true Tryd.f20.params.toList args.toList ds p := hA0
  rw [Tryd.params20] at hA hval
  obtain ⟨v0, vs0, d0, ds0, p0, q0, hargs, rfl, rfl, h0, r0⟩ := trodAll_cons hA
  obtain ⟨v1, vs1, d1, ds1, p1, q1, rfl, rfl, rfl, h1, r1⟩ := trodAll_cons r0
  obtain ⟨v2, vs2, d2, ds2, p2, q2, rfl, rfl, rfl, h2, r2⟩ := trodAll_cons r1
  obtain ⟨rfl, rfl, rfl⟩ := trodAll_nil r2
  obtain rfl : args = #[v0, v1, v2] := by cases args; simp_all
  obtain ⟨rfl, rfl⟩ := trodVars_none hV
  obtain ⟨n0, hn0, rfl⟩ := open_byte' Tryd.underlying5 (hval 0 5 v0 rfl rfl) h0
  obtain ⟨A1, ps1, c1, rfl, hp1, hbk1⟩ := open_pieces' Tryd.underlying22 Tryd.underlying25 Tryd.underlying5 cells25 cells5 (hval 1 22 v1 rfl rfl) h1
  obtain ⟨A2, cs2, c2, rfl, hp2, hbk2⟩ := open_calls' (hval 2 23 v2 rfl rfl) h2
  obtain ⟨E, hE⟩ := env_laid laidFive hL hsh
  have htb := tabs_laid laidTwo hL
  have hb := of_decide_eq_true hk
  simp only [List.append_nil, Rows.uptoBulkAll] at hb
  refine (law20 E n0 hn0 A1 c1 ps1 A2 c2 cs2 W hE htb hp1 hp2 (show Room (ps1.flatten.length + 255) by unfold Room; omega) (show Room ps1.length by unfold Room; omega) (show Room (callsLen cs2 + 1000) by unfold Room; omega)).mono fun e W' ⟨he, hbl⟩ => ?_
  subst he
  refine ⟨_, rfl, post_true hW' rfl rfl rfl ?_ hbl⟩
  rw [Tryd.params20]
  intro t ht
  simp at ht
  first | (rcases ht with rfl | rfl | rfl <;> exact ⟨by kernel_rfl, of_decide_eq_true (by kernel_rfl)⟩)

theorem laid_met (os : Os) : laidMet Tryd.prog Rows.fnSinkUptoRow.laid ((World.laidAll Tryd.prog os Rows.fnSinkUptoRow.laid).forCall (fun _ _ => 0) ⟨#[], #[.int .u8 0, .slice none 0 0, .slice none 0 0], []⟩).memory :=
  laidMet_laidAll _ (by kernel_rfl) (by kernel_rfl)
theorem reads (os : Os) {H : Type} (enc : TypeId × Value → H) : ∃ places, DataW.whole enc Tryd.prog ((World.laidAll Tryd.prog os Rows.fnSinkUptoRow.laid).forCall (fun _ _ => 0) ⟨#[], #[.int .u8 0, .slice none 0 0, .slice none 0 0], []⟩).memory Tryd.f20.params.toList Rows.fnSinkSpec.vars false #[Value.int .u8 0, .slice none 0 0, .slice none 0 0].toList 8 = some ([.lit (.int .u8 0), .nil, .nil], [], places) :=
  ⟨[], by kernel_rfl⟩
theorem shaped (os : Os) : ((World.laidAll Tryd.prog os Rows.fnSinkUptoRow.laid).forCall (fun _ _ => 0) ⟨#[], #[.int .u8 0, .slice none 0 0, .slice none 0 0], []⟩).Shaped Tryd.prog :=
  World.shaped_of_ZipB (by kernel_rfl) (by kernel_rfl)

set_option maxRecDepth 100000 in
theorem liftedUpto (os : Os) (started : os.Started) (H : Type) (enc : TypeId × Value → H) (F : Stop.Interp) :
    ReturnsInHanded {} Tryd.checked os 20 .any ((Rows.OpenSpec.upto Rows.fnSinkSpec).preRow enc Tryd.prog Tryd.f20 Rows.fnSinkUptoRow.domain false Rows.fnSinkUptoRow.laid) (((Rows.OpenSpec.upto Rows.fnSinkSpec).at F).post enc Tryd.prog Tryd.f20 false true false false) := by
  obtain ⟨places, hx⟩ := reads os enc
  have hok : Input.okWideB Tryd.prog ((World.laidAll Tryd.prog os Rows.fnSinkUptoRow.laid).forCall (fun _ _ => 0) ⟨#[], #[.int .u8 0, .slice none 0 0, .slice none 0 0], []⟩) 20 ⟨#[], #[.int .u8 0, .slice none 0 0, .slice none 0 0], []⟩ = true := by kernel_rfl
  refine returnsInHanded_of_row (C := Tryd.checked) (s := Rows.OpenSpec.upto Rows.fnSinkSpec) ownT started (by kernel_rfl) Tryd.func20
    ⟨World.laidAll Tryd.prog os Rows.fnSinkUptoRow.laid, fun _ _ => 0, ⟨#[], #[.int .u8 0, .slice none 0 0, .slice none 0 0], []⟩, World.laidAll_os _ _ _, shaped os, (Input.okWide_of_okWideB (base := 0) hok).1, (Input.okWide_of_okWideB hok).2,
      OpenSpec.preRow_of_cond 8 hx (by kernel_rfl) (fun k hk => by cases hk; kernel_rfl) (by kernel_rfl) (laid_met os), by
        simp only [Assume.holds]
        exact ⟨by simp, by simp, fun _ => Modest.zero, by simp, by simp⟩⟩ ?_
  intro W base args ds gs before hval hW _ hcond _ hL hsh _
  exact contract H enc W base args ds gs before hval hW (hcond _ rfl) hL hsh

theorem named20 : Tryd.pinned.checked.prog.funcNamed Rows.fnSinkUptoRow.func = some 20 := by kernel_rfl
theorem closed : joinedFacts Tryd.prog 20 Tryd.f20 (Rows.OpenSpec.upto Rows.fnSinkSpec).bare Rows.fnSinkUptoRow = true := by
  unfold joinedFacts
  rw [hMay, hLifts, hMake, hLaidOut, hMaps, hKeys, hHeard]
  kernel_rfl
theorem inst : Tryd.f20.isInstance Tryd.pinned.checked.prog Rows.fnSinkUptoRow.origin Rows.fnSinkUptoRow.targs := of_decide_eq_true (by kernel_rfl)
theorem wrapper : Tryd.f20.isWrapper Tryd.pinned.checked.prog Rows.fnSinkUptoRow.wrapper Rows.fnSinkUptoRow.mainSum := by
  unfold Func.isWrapper; first | (rw [if_pos (by decide +kernel)]; kernel_rfl) | (rw [if_neg (by decide +kernel)]; exact ⟨rfl, rfl⟩)
theorem saidUpto : Rows.FnSinkUptoSaid :=
  OpenClaim.holds_of_cond 20 Tryd.f20 rfl rfl rfl rfl rfl rfl rfl ⟨rfl, rfl, rfl, rfl, rfl⟩ rfl rfl rfl rfl rfl named20 Tryd.func20 closed inst wrapper
    (fun os started H enc _ F => by rw [OpenClaim.pre_eq_preRow]; exact liftedUpto os started H enc F)

theorem plain (f : FuncId) (fn : Func) (hf : Tryd.pinned.checked.prog.funcNamed "loop.example/lib-g03117/laws.FnSink" = some f) (hfn : Tryd.pinned.checked.prog.funcs[f]? = some fn) :
    true = Tryd.pinned.checked.prog.looks [] ∧ ∀ (j : Nat) t, fn.params[j]? = some t → Tryd.pinned.checked.prog.wantsStandIn t = false := by
  obtain rfl : f = 20 := Option.some.inj ((show Tryd.prog.funcNamed "loop.example/lib-g03117/laws.FnSink" = some 20 by kernel_rfl).symm.trans hf) |>.symm
  obtain rfl : fn = Tryd.f20 := (Option.some.inj (Tryd.func20.symm.trans hfn)).symm
  refine ⟨hLooks, fun j t ht => ?_⟩
  rw [Tryd.params20] at ht
  have hm : t ∈ [5, 22, 23] := by simpa using Array.mem_of_getElem? ht
  have hall : ([5, 22, 23].all fun u => !Tryd.prog.wantsStandIn u) = true := by kernel_rfl
  exact (show Tryd.prog.wantsStandIn t = false by simpa using List.all_eq_true.1 hall t hm)

theorem proved : Rows.FnSinkUptoCardSaid :=
  Claim7.holds_tied_plain_at .later [] _ _ _ _ saidUpto (fun _ h => by cases h) (by kernel_rfl) (fun _ h => by cases h) fnSinkUpto_row_tie rfl ⟨rfl, rfl⟩ hMain rfl plain (by kernel_rfl)
end Go.Proofs.YtancmlapnhccdaaDoor.fnSink
