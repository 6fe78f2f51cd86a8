/- Closed facts on the program that every card of this seat asks: each by itself, as each wants much memory. -/
import Derived.Test.YtancmlapnhccdaaDoorCards
import Derived.WalkKit
import Derived.ProofKit
import Derived.JoinedOf
namespace Go.Proofs.YtancmlapnhccdaaDoor
theorem hMay : Tryd.prog.mayEnter = true := by kernel_rfl
theorem hLifts : Tryd.prog.liftsFinal = false := by kernel_rfl
theorem hMake : Tryd.prog.make = some Rows.fnWriteToUptoRow.make := by kernel_rfl
theorem hMain : Tryd.prog.mainIs = some (true, "b1815cbadff33118e92ddc574fb7d07f4d98d0f45ba4d63c1cafec19e4c6bb10".toList) := by kernel_rfl
theorem hLaidOut : laidOutB Tryd.prog = true := by kernel_rfl
theorem hMaps : mapsRowed Tryd.prog = true := by kernel_rfl
theorem hKeys : Tryd.prog.plainKeys = Rows.fnWriteToUptoRow.plainKeys := by kernel_rfl
theorem hHeard : Tryd.prog.stopsHeard = true := by kernel_rfl
theorem hLooks : true = Tryd.prog.looks [] := by kernel_rfl
end Go.Proofs.YtancmlapnhccdaaDoor
