/-
  No cell of these rows narrows 'for every input' (looked for: loops, veiled, ifaces, maps, wideKeys, modest, calm, conditions, laid).
  DERIVED. THE GIVEN ROWS OF THIS SEAT. 12 by the template 'for every input the law returns true; each argument reads behind the call as it read before'; 0 by the template 'total and deterministic' (their statements: YtcldabiipniecaaTotals.lean).
  GIVEN WITH THE SEED: the statements are not yours to turn. If you find one false, say at which input.
  Laid BY PROGRAM, IN A SANDBOX (cutbox-rows.mjs): the forced cells as the released guide's own fill.sh prints them over the translation a33774257950ec7d… (all of the seat's roots in one cut). By AI agents, Wed Nov 11 2026. No macro, syntax, notation, axiom, sorry.
-/
import Derived.Test.YtcldabiipniecaaChecked
import GoSem.Claim
import GoSem.ClaimJoined
import GoSem.ClaimMapViews
import Derived.JoinedTies
import Derived.KernelRfl
namespace Go.Proofs.Ytcldabiipniecaa
/- THE CELL 'sum', in the pinned program and in every row, IS THE sha256 OF THE DUMP (.gsa) THAT YtcldabiipniecaaProg.lean LOADS. Nothing in Lean hashes anything: it is a label: what it is worth is what the hold of that sum in a sandbox is worth. -/
noncomputable def Try.pinned : Pinned := { name := "ytcldabiipniecaa", sum := "a33774257950ec7d506ec4159fd0b3e45924c5c82ab92ad62acff9f82283d1cc", checked := Try.checked }
namespace Rows
def none {H : Type} : Left H := { results := [], args := [] }

/-- 'laws.FnBounds': WHATEVER THE INPUT: true; the input reads as it did. -/
def fnBoundsSpec : ChangeSpec := { name := "fnBounds", fn := fun _ => fun
  | [d1, d2] => { results := [.lit (.bool true)], args := [d1, d2] }
  | _ => none }
def fnBoundsRow : OpenClaim := { program := "ytcldabiipniecaa", sum := "a33774257950ec7d506ec4159fd0b3e45924c5c82ab92ad62acff9f82283d1cc", func := "loop.example/lib-g03117/laws.FnBounds", spec := "fnBounds", apart := false }
def FnBoundsSaid : Prop := fnBoundsRow.holds Try.pinned (OpenSpec.ofChange fnBoundsSpec)

/-- ITS FALSE NEIGHBOUR: 'it returns false'. Refute it at one input. -/
def fnBoundsWrong : ChangeSpec := { name := "fnBounds", fn := fun _ => fun
  | [d1, d2] => { results := [.lit (.bool false)], args := [d1, d2] }
  | _ => none }
def FnBoundsWrongFalsely : Prop := fnBoundsRow.holds Try.pinned (OpenSpec.ofChange fnBoundsWrong)

/-- 'laws.FnBoundsCode': WHATEVER THE INPUT: true; the input reads as it did. -/
def fnBoundsCodeSpec : ChangeSpec := { name := "fnBoundsCode", fn := fun _ => fun
  | [d] => { results := [.lit (.bool true)], args := [d] }
  | _ => none }
def fnBoundsCodeRow : OpenClaim := { program := "ytcldabiipniecaa", sum := "a33774257950ec7d506ec4159fd0b3e45924c5c82ab92ad62acff9f82283d1cc", func := "loop.example/lib-g03117/laws.FnBoundsCode", spec := "fnBoundsCode", apart := false }
def FnBoundsCodeSaid : Prop := fnBoundsCodeRow.holds Try.pinned (OpenSpec.ofChange fnBoundsCodeSpec)

/-- ITS FALSE NEIGHBOUR: 'it returns false'. Refute it at one input. -/
def fnBoundsCodeWrong : ChangeSpec := { name := "fnBoundsCode", fn := fun _ => fun
  | [d] => { results := [.lit (.bool false)], args := [d] }
  | _ => none }
def FnBoundsCodeWrongFalsely : Prop := fnBoundsCodeRow.holds Try.pinned (OpenSpec.ofChange fnBoundsCodeWrong)

/-- 'laws.FnClear': WHATEVER THE INPUT: true; the input reads as it did. -/
def fnClearSpec : ChangeSpec := { name := "fnClear", fn := fun _ => fun
  | [d] => { results := [.lit (.bool true)], args := [d] }
  | _ => none }
def fnClearRow : OpenClaim := { program := "ytcldabiipniecaa", sum := "a33774257950ec7d506ec4159fd0b3e45924c5c82ab92ad62acff9f82283d1cc", func := "loop.example/lib-g03117/laws.FnClear", spec := "fnClear", unfollowed := true, recurses := true, apart := false }
def FnClearSaid : Prop := fnClearRow.holds Try.pinned (OpenSpec.ofChange fnClearSpec)

/-- ITS FALSE NEIGHBOUR: 'it returns false'. Refute it at one input. -/
def fnClearWrong : ChangeSpec := { name := "fnClear", fn := fun _ => fun
  | [d] => { results := [.lit (.bool false)], args := [d] }
  | _ => none }
def FnClearWrongFalsely : Prop := fnClearRow.holds Try.pinned (OpenSpec.ofChange fnClearWrong)

/-- 'laws.FnNear': WHATEVER THE INPUT: true; the input reads as it did. -/
def fnNearSpec : ChangeSpec := { name := "fnNear", fn := fun _ => fun
  | [d] => { results := [.lit (.bool true)], args := [d] }
  | _ => none }
def fnNearRow : OpenClaim := { program := "ytcldabiipniecaa", sum := "a33774257950ec7d506ec4159fd0b3e45924c5c82ab92ad62acff9f82283d1cc", func := "loop.example/lib-g03117/laws.FnNear", spec := "fnNear", unfollowed := true, recurses := true, apart := false }
def FnNearSaid : Prop := fnNearRow.holds Try.pinned (OpenSpec.ofChange fnNearSpec)

/-- ITS FALSE NEIGHBOUR: 'it returns false'. Refute it at one input. -/
def fnNearWrong : ChangeSpec := { name := "fnNear", fn := fun _ => fun
  | [d] => { results := [.lit (.bool false)], args := [d] }
  | _ => none }
def FnNearWrongFalsely : Prop := fnNearRow.holds Try.pinned (OpenSpec.ofChange fnNearWrong)

/-- 'laws.FnRange': WHATEVER THE INPUT: true; the input reads as it did. -/
def fnRangeSpec : ChangeSpec := { name := "fnRange", fn := fun _ => fun
  | [d] => { results := [.lit (.bool true)], args := [d] }
  | _ => none }
def fnRangeRow : OpenClaim := { program := "ytcldabiipniecaa", sum := "a33774257950ec7d506ec4159fd0b3e45924c5c82ab92ad62acff9f82283d1cc", func := "loop.example/lib-g03117/laws.FnRange", spec := "fnRange", unfollowed := true, recurses := true, apart := false }
def FnRangeSaid : Prop := fnRangeRow.holds Try.pinned (OpenSpec.ofChange fnRangeSpec)

/-- ITS FALSE NEIGHBOUR: 'it returns false'. Refute it at one input. -/
def fnRangeWrong : ChangeSpec := { name := "fnRange", fn := fun _ => fun
  | [d] => { results := [.lit (.bool false)], args := [d] }
  | _ => none }
def FnRangeWrongFalsely : Prop := fnRangeRow.holds Try.pinned (OpenSpec.ofChange fnRangeWrong)

/-- 'laws.FnScaled': WHATEVER THE INPUT: true; the input reads as it did. -/
def fnScaledSpec : ChangeSpec := { name := "fnScaled", fn := fun _ => fun
  | [d] => { results := [.lit (.bool true)], args := [d] }
  | _ => none }
def fnScaledRow : OpenClaim := { program := "ytcldabiipniecaa", sum := "a33774257950ec7d506ec4159fd0b3e45924c5c82ab92ad62acff9f82283d1cc", func := "loop.example/lib-g03117/laws.FnScaled", spec := "fnScaled", unfollowed := true, recurses := true, apart := false }
def FnScaledSaid : Prop := fnScaledRow.holds Try.pinned (OpenSpec.ofChange fnScaledSpec)

/-- ITS FALSE NEIGHBOUR: 'it returns false'. Refute it at one input. -/
def fnScaledWrong : ChangeSpec := { name := "fnScaled", fn := fun _ => fun
  | [d] => { results := [.lit (.bool false)], args := [d] }
  | _ => none }
def FnScaledWrongFalsely : Prop := fnScaledRow.holds Try.pinned (OpenSpec.ofChange fnScaledWrong)

/-- 'laws.FnValues': WHATEVER THE INPUT: true; the input reads as it did. -/
def fnValuesSpec : ChangeSpec := { name := "fnValues", fn := fun _ => fun
  | [d] => { results := [.lit (.bool true)], args := [d] }
  | _ => none }
def fnValuesRow : OpenClaim := { program := "ytcldabiipniecaa", sum := "a33774257950ec7d506ec4159fd0b3e45924c5c82ab92ad62acff9f82283d1cc", func := "loop.example/lib-g03117/laws.FnValues", spec := "fnValues", unfollowed := true, recurses := true, apart := false }
def FnValuesSaid : Prop := fnValuesRow.holds Try.pinned (OpenSpec.ofChange fnValuesSpec)

/-- ITS FALSE NEIGHBOUR: 'it returns false'. Refute it at one input. -/
def fnValuesWrong : ChangeSpec := { name := "fnValues", fn := fun _ => fun
  | [d] => { results := [.lit (.bool false)], args := [d] }
  | _ => none }
def FnValuesWrongFalsely : Prop := fnValuesRow.holds Try.pinned (OpenSpec.ofChange fnValuesWrong)

/-- 'laws.FnOpaque': WHATEVER THE INPUT: true; the input reads as it did. -/
def fnOpaqueSpec : ChangeSpec := { name := "fnOpaque", fn := fun _ => fun
  | [d] => { results := [.lit (.bool true)], args := [d] }
  | _ => none }
def fnOpaqueRow : OpenClaim := { program := "ytcldabiipniecaa", sum := "a33774257950ec7d506ec4159fd0b3e45924c5c82ab92ad62acff9f82283d1cc", func := "loop.example/lib-g03117/laws.FnOpaque", spec := "fnOpaque", unfollowed := true, recurses := true, apart := false }
def FnOpaqueSaid : Prop := fnOpaqueRow.holds Try.pinned (OpenSpec.ofChange fnOpaqueSpec)

/-- ITS FALSE NEIGHBOUR: 'it returns false'. Refute it at one input. -/
def fnOpaqueWrong : ChangeSpec := { name := "fnOpaque", fn := fun _ => fun
  | [d] => { results := [.lit (.bool false)], args := [d] }
  | _ => none }
def FnOpaqueWrongFalsely : Prop := fnOpaqueRow.holds Try.pinned (OpenSpec.ofChange fnOpaqueWrong)

/-- 'laws.FnAt64': WHATEVER THE INPUT: true; the input reads as it did. -/
def fnAt64Spec : ChangeSpec := { name := "fnAt64", fn := fun _ => fun
  | [d1, d2, d3] => { results := [.lit (.bool true)], args := [d1, d2, d3] }
  | _ => none }
def fnAt64Row : OpenClaim := { program := "ytcldabiipniecaa", sum := "a33774257950ec7d506ec4159fd0b3e45924c5c82ab92ad62acff9f82283d1cc", func := "loop.example/lib-g03117/laws.FnAt64", spec := "fnAt64", unfollowed := true, recurses := true, apart := false }
def FnAt64Said : Prop := fnAt64Row.holds Try.pinned (OpenSpec.ofChange fnAt64Spec)

/-- ITS FALSE NEIGHBOUR: 'it returns false'. Refute it at one input. -/
def fnAt64Wrong : ChangeSpec := { name := "fnAt64", fn := fun _ => fun
  | [d1, d2, d3] => { results := [.lit (.bool false)], args := [d1, d2, d3] }
  | _ => none }
def FnAt64WrongFalsely : Prop := fnAt64Row.holds Try.pinned (OpenSpec.ofChange fnAt64Wrong)

/-- 'laws.FnAt': WHATEVER THE INPUT: true; the input reads as it did. -/
def fnAtSpec : ChangeSpec := { name := "fnAt", fn := fun _ => fun
  | [d1, d2, d3] => { results := [.lit (.bool true)], args := [d1, d2, d3] }
  | _ => none }
def fnAtRow : OpenClaim := { program := "ytcldabiipniecaa", sum := "a33774257950ec7d506ec4159fd0b3e45924c5c82ab92ad62acff9f82283d1cc", func := "loop.example/lib-g03117/laws.FnAt", spec := "fnAt", unfollowed := true, recurses := true, apart := false }
def FnAtSaid : Prop := fnAtRow.holds Try.pinned (OpenSpec.ofChange fnAtSpec)

/-- ITS FALSE NEIGHBOUR: 'it returns false'. Refute it at one input. -/
def fnAtWrong : ChangeSpec := { name := "fnAt", fn := fun _ => fun
  | [d1, d2, d3] => { results := [.lit (.bool false)], args := [d1, d2, d3] }
  | _ => none }
def FnAtWrongFalsely : Prop := fnAtRow.holds Try.pinned (OpenSpec.ofChange fnAtWrong)

/-- 'laws.FnConvert': WHATEVER THE INPUT: true; the input reads as it did. -/
def fnConvertSpec : ChangeSpec := { name := "fnConvert", fn := fun _ => fun
  | [d1, d2] => { results := [.lit (.bool true)], args := [d1, d2] }
  | _ => none }
def fnConvertRow : OpenClaim := { program := "ytcldabiipniecaa", sum := "a33774257950ec7d506ec4159fd0b3e45924c5c82ab92ad62acff9f82283d1cc", func := "loop.example/lib-g03117/laws.FnConvert", spec := "fnConvert", unfollowed := true, recurses := true, apart := false }
def FnConvertSaid : Prop := fnConvertRow.holds Try.pinned (OpenSpec.ofChange fnConvertSpec)

/-- ITS FALSE NEIGHBOUR: 'it returns false'. Refute it at one input. -/
def fnConvertWrong : ChangeSpec := { name := "fnConvert", fn := fun _ => fun
  | [d1, d2] => { results := [.lit (.bool false)], args := [d1, d2] }
  | _ => none }
def FnConvertWrongFalsely : Prop := fnConvertRow.holds Try.pinned (OpenSpec.ofChange fnConvertWrong)

/-- 'laws.FnModel': WHATEVER THE INPUT: true; the input reads as it did. -/
def fnModelSpec : ChangeSpec := { name := "fnModel", fn := fun _ => fun
  | [d1, d2] => { results := [.lit (.bool true)], args := [d1, d2] }
  | _ => none }
def fnModelRow : OpenClaim := { program := "ytcldabiipniecaa", sum := "a33774257950ec7d506ec4159fd0b3e45924c5c82ab92ad62acff9f82283d1cc", func := "loop.example/lib-g03117/laws.FnModel", spec := "fnModel", unfollowed := true, recurses := true, apart := false }
def FnModelSaid : Prop := fnModelRow.holds Try.pinned (OpenSpec.ofChange fnModelSpec)

/-- ITS FALSE NEIGHBOUR: 'it returns false'. Refute it at one input. -/
def fnModelWrong : ChangeSpec := { name := "fnModel", fn := fun _ => fun
  | [d1, d2] => { results := [.lit (.bool false)], args := [d1, d2] }
  | _ => none }
def FnModelWrongFalsely : Prop := fnModelRow.holds Try.pinned (OpenSpec.ofChange fnModelWrong)

/- THE SECOND FORM. 'bulk': how many values and letters a reading holds, each counted each time it is reached (what is shared counts as often as it is met; a slice's spare places count too). A statement '..UptoSaid' is the law's where the arguments, and the package variables that the reading takes, are together of bulk at most 1048576: NARROWER than '..Said'. Prove '..Said' where nothing that the law and all that it calls make is longer than what came in: it says more and counts as full. Else prove '..UptoSaid'. A law counts once. -/
mutual
def uptoBulk {H : Type} : DataW H → Nat
  | .lit (.string bytes) => bytes.length + 1
  | .lit _ => 1
  | .nil => 1
  | .ptr d => uptoBulk d + 1
  | .slice elems spare => uptoBulkAll elems + uptoBulkAll spare + 1
  | .agg parts => uptoBulkAll parts + 1
  | .iface _ d => uptoBulk d + 1
  | .map entries => uptoBulkEntries entries + 1
  | .held _ => 1
def uptoBulkAll {H : Type} : List (DataW H) → Nat
  | [] => 0
  | d :: r => uptoBulk d + uptoBulkAll r
def uptoBulkEntries {H : Type} : List (Lit × DataW H) → Nat
  | [] => 0
  | x :: r => uptoBulkEntry x + uptoBulkEntries r
def uptoBulkEntry {H : Type} : Lit × DataW H → Nat
  | (.string bytes, d) => bytes.length + uptoBulk d + 1
  | (_, d) => uptoBulk d + 1
 end
def uptoSmall : (H : Type) → List (DataW H) → Bool := fun _ ds => decide (uptoBulkAll ds ≤ 1048576)
def OpenSpec.upto (s : _root_.Go.ChangeSpec) : _root_.Go.OpenSpec := { _root_.Go.OpenSpec.ofChange s with cond := some uptoSmall }

/-- 'laws.FnBounds', WHERE WHAT IT READS IS OF BULK AT MOST 1048576: true; the input reads as it did. -/
def fnBoundsUptoRow : OpenClaim := { program := "ytcldabiipniecaa", sum := "a33774257950ec7d506ec4159fd0b3e45924c5c82ab92ad62acff9f82283d1cc", func := "loop.example/lib-g03117/laws.FnBounds", spec := "fnBounds", apart := false, narrowed := true }
def FnBoundsUptoSaid : Prop := fnBoundsUptoRow.holds Try.pinned (OpenSpec.upto fnBoundsSpec)

/-- 'laws.FnBoundsCode', WHERE WHAT IT READS IS OF BULK AT MOST 1048576: true; the input reads as it did. -/
def fnBoundsCodeUptoRow : OpenClaim := { program := "ytcldabiipniecaa", sum := "a33774257950ec7d506ec4159fd0b3e45924c5c82ab92ad62acff9f82283d1cc", func := "loop.example/lib-g03117/laws.FnBoundsCode", spec := "fnBoundsCode", apart := false, narrowed := true }
def FnBoundsCodeUptoSaid : Prop := fnBoundsCodeUptoRow.holds Try.pinned (OpenSpec.upto fnBoundsCodeSpec)

/-- 'laws.FnClear', WHERE WHAT IT READS IS OF BULK AT MOST 1048576: true; the input reads as it did. -/
def fnClearUptoRow : OpenClaim := { program := "ytcldabiipniecaa", sum := "a33774257950ec7d506ec4159fd0b3e45924c5c82ab92ad62acff9f82283d1cc", func := "loop.example/lib-g03117/laws.FnClear", spec := "fnClear", unfollowed := true, recurses := true, apart := false, narrowed := true }
def FnClearUptoSaid : Prop := fnClearUptoRow.holds Try.pinned (OpenSpec.upto fnClearSpec)

/-- 'laws.FnNear', WHERE WHAT IT READS IS OF BULK AT MOST 1048576: true; the input reads as it did. -/
def fnNearUptoRow : OpenClaim := { program := "ytcldabiipniecaa", sum := "a33774257950ec7d506ec4159fd0b3e45924c5c82ab92ad62acff9f82283d1cc", func := "loop.example/lib-g03117/laws.FnNear", spec := "fnNear", unfollowed := true, recurses := true, apart := false, narrowed := true }
def FnNearUptoSaid : Prop := fnNearUptoRow.holds Try.pinned (OpenSpec.upto fnNearSpec)

/-- 'laws.FnRange', WHERE WHAT IT READS IS OF BULK AT MOST 1048576: true; the input reads as it did. -/
def fnRangeUptoRow : OpenClaim := { program := "ytcldabiipniecaa", sum := "a33774257950ec7d506ec4159fd0b3e45924c5c82ab92ad62acff9f82283d1cc", func := "loop.example/lib-g03117/laws.FnRange", spec := "fnRange", unfollowed := true, recurses := true, apart := false, narrowed := true }
def FnRangeUptoSaid : Prop := fnRangeUptoRow.holds Try.pinned (OpenSpec.upto fnRangeSpec)

/-- 'laws.FnScaled', WHERE WHAT IT READS IS OF BULK AT MOST 1048576: true; the input reads as it did. -/
def fnScaledUptoRow : OpenClaim := { program := "ytcldabiipniecaa", sum := "a33774257950ec7d506ec4159fd0b3e45924c5c82ab92ad62acff9f82283d1cc", func := "loop.example/lib-g03117/laws.FnScaled", spec := "fnScaled", unfollowed := true, recurses := true, apart := false, narrowed := true }
def FnScaledUptoSaid : Prop := fnScaledUptoRow.holds Try.pinned (OpenSpec.upto fnScaledSpec)

/-- 'laws.FnValues', WHERE WHAT IT READS IS OF BULK AT MOST 1048576: true; the input reads as it did. -/
def fnValuesUptoRow : OpenClaim := { program := "ytcldabiipniecaa", sum := "a33774257950ec7d506ec4159fd0b3e45924c5c82ab92ad62acff9f82283d1cc", func := "loop.example/lib-g03117/laws.FnValues", spec := "fnValues", unfollowed := true, recurses := true, apart := false, narrowed := true }
def FnValuesUptoSaid : Prop := fnValuesUptoRow.holds Try.pinned (OpenSpec.upto fnValuesSpec)

/-- 'laws.FnOpaque', WHERE WHAT IT READS IS OF BULK AT MOST 1048576: true; the input reads as it did. -/
def fnOpaqueUptoRow : OpenClaim := { program := "ytcldabiipniecaa", sum := "a33774257950ec7d506ec4159fd0b3e45924c5c82ab92ad62acff9f82283d1cc", func := "loop.example/lib-g03117/laws.FnOpaque", spec := "fnOpaque", unfollowed := true, recurses := true, apart := false, narrowed := true }
def FnOpaqueUptoSaid : Prop := fnOpaqueUptoRow.holds Try.pinned (OpenSpec.upto fnOpaqueSpec)

/-- 'laws.FnAt64', WHERE WHAT IT READS IS OF BULK AT MOST 1048576: true; the input reads as it did. -/
def fnAt64UptoRow : OpenClaim := { program := "ytcldabiipniecaa", sum := "a33774257950ec7d506ec4159fd0b3e45924c5c82ab92ad62acff9f82283d1cc", func := "loop.example/lib-g03117/laws.FnAt64", spec := "fnAt64", unfollowed := true, recurses := true, apart := false, narrowed := true }
def FnAt64UptoSaid : Prop := fnAt64UptoRow.holds Try.pinned (OpenSpec.upto fnAt64Spec)

/-- 'laws.FnAt', WHERE WHAT IT READS IS OF BULK AT MOST 1048576: true; the input reads as it did. -/
def fnAtUptoRow : OpenClaim := { program := "ytcldabiipniecaa", sum := "a33774257950ec7d506ec4159fd0b3e45924c5c82ab92ad62acff9f82283d1cc", func := "loop.example/lib-g03117/laws.FnAt", spec := "fnAt", unfollowed := true, recurses := true, apart := false, narrowed := true }
def FnAtUptoSaid : Prop := fnAtUptoRow.holds Try.pinned (OpenSpec.upto fnAtSpec)

/-- 'laws.FnConvert', WHERE WHAT IT READS IS OF BULK AT MOST 1048576: true; the input reads as it did. -/
def fnConvertUptoRow : OpenClaim := { program := "ytcldabiipniecaa", sum := "a33774257950ec7d506ec4159fd0b3e45924c5c82ab92ad62acff9f82283d1cc", func := "loop.example/lib-g03117/laws.FnConvert", spec := "fnConvert", unfollowed := true, recurses := true, apart := false, narrowed := true }
def FnConvertUptoSaid : Prop := fnConvertUptoRow.holds Try.pinned (OpenSpec.upto fnConvertSpec)

/-- 'laws.FnModel', WHERE WHAT IT READS IS OF BULK AT MOST 1048576: true; the input reads as it did. -/
def fnModelUptoRow : OpenClaim := { program := "ytcldabiipniecaa", sum := "a33774257950ec7d506ec4159fd0b3e45924c5c82ab92ad62acff9f82283d1cc", func := "loop.example/lib-g03117/laws.FnModel", spec := "fnModel", unfollowed := true, recurses := true, apart := false, narrowed := true }
def FnModelUptoSaid : Prop := fnModelUptoRow.holds Try.pinned (OpenSpec.upto fnModelSpec)

end Rows
end Go.Proofs.Ytcldabiipniecaa
