/-
  No cell of these rows narrows 'for every input' (looked for: loops, veiled, ifaces, maps, wideKeys, modest, calm, conditions, laid).
  DERIVED. THE GIVEN ROWS OF THIS SEAT. 4 by the template 'for every input the law returns true; each argument reads behind the call as it read before'; 0 by the template 'total and deterministic' (their statements: Qxb6003667aTotals.lean).
  GIVEN WITH THE SEED: the statements are not yours to turn. If you find one false, say at which input.
  Laid BY PROGRAM, IN A SANDBOX (cutbox-rows.mjs): the forced cells as the released guide's own fill.sh prints them over the translation 2c801746696dc745… (all of the seat's roots in one cut). By AI agents, Wed Nov 11 2026. No macro, syntax, notation, axiom, sorry.
-/
import Derived.Test.Qxb6003667aChecked
import GoSem.Claim
import GoSem.ClaimJoined
import GoSem.ClaimMapViews
import Derived.JoinedTies
import Derived.KernelRfl
namespace Go.Proofs.Qxb6003667a
/- THE CELL 'sum', in the pinned program and in every row, IS THE sha256 OF THE DUMP (.gsa) THAT Qxb6003667aProg.lean LOADS. Nothing in Lean hashes anything: it is a label: what it is worth is what the hold of that sum in a sandbox is worth. -/
noncomputable def Try.pinned : Pinned := { name := "qxb6003667a", sum := "2c801746696dc7456e2af1bff77aea6dfc04231d16e5b2b83678089a35bfd5ed", checked := Try.checked }
namespace Rows
def none {H : Type} : Left H := { results := [], args := [] }

/-- 'zzlaws_internal_cluster_g1.FnMarkSetAgreesWithSlots': WHATEVER THE INPUT: true; the input reads as it did. -/
def fnMarkSetAgreesWithSlotsSpec : ChangeSpec := { name := "fnMarkSetAgreesWithSlots", fn := fun _ => fun
  | [d1, d2, d3] => { results := [.lit (.bool true)], args := [d1, d2, d3] }
  | _ => none }
def fnMarkSetAgreesWithSlotsRow : OpenClaim := { program := "qxb6003667a", sum := "2c801746696dc7456e2af1bff77aea6dfc04231d16e5b2b83678089a35bfd5ed", func := "example.com/knotwise/knotwise/zzlaws_internal_cluster_g1.FnMarkSetAgreesWithSlots", spec := "fnMarkSetAgreesWithSlots", unfollowed := true, recurses := true, plainKeys := false, apart := false }
def FnMarkSetAgreesWithSlotsSaid : Prop := fnMarkSetAgreesWithSlotsRow.holds Try.pinned (OpenSpec.ofChange fnMarkSetAgreesWithSlotsSpec)

/-- ITS FALSE NEIGHBOUR: 'it returns false'. Refute it at one input. -/
def fnMarkSetAgreesWithSlotsWrong : ChangeSpec := { name := "fnMarkSetAgreesWithSlots", fn := fun _ => fun
  | [d1, d2, d3] => { results := [.lit (.bool false)], args := [d1, d2, d3] }
  | _ => none }
def FnMarkSetAgreesWithSlotsWrongFalsely : Prop := fnMarkSetAgreesWithSlotsRow.holds Try.pinned (OpenSpec.ofChange fnMarkSetAgreesWithSlotsWrong)

/-- 'zzlaws_internal_cluster_g1.FnNumberedIsFirstSeenOrder': WHATEVER THE INPUT: true; the input reads as it did. -/
def fnNumberedIsFirstSeenOrderSpec : ChangeSpec := { name := "fnNumberedIsFirstSeenOrder", fn := fun _ => fun
  | [d] => { results := [.lit (.bool true)], args := [d] }
  | _ => none }
def fnNumberedIsFirstSeenOrderRow : OpenClaim := { program := "qxb6003667a", sum := "2c801746696dc7456e2af1bff77aea6dfc04231d16e5b2b83678089a35bfd5ed", func := "example.com/knotwise/knotwise/zzlaws_internal_cluster_g1.FnNumberedIsFirstSeenOrder", spec := "fnNumberedIsFirstSeenOrder", plainKeys := false, apart := false }
def FnNumberedIsFirstSeenOrderSaid : Prop := fnNumberedIsFirstSeenOrderRow.holds Try.pinned (OpenSpec.ofChange fnNumberedIsFirstSeenOrderSpec)

/-- ITS FALSE NEIGHBOUR: 'it returns false'. Refute it at one input. -/
def fnNumberedIsFirstSeenOrderWrong : ChangeSpec := { name := "fnNumberedIsFirstSeenOrder", fn := fun _ => fun
  | [d] => { results := [.lit (.bool false)], args := [d] }
  | _ => none }
def FnNumberedIsFirstSeenOrderWrongFalsely : Prop := fnNumberedIsFirstSeenOrderRow.holds Try.pinned (OpenSpec.ofChange fnNumberedIsFirstSeenOrderWrong)

/-- 'zzlaws_internal_cluster_g1.FnAddKeepsPictureWellFormed': WHATEVER THE INPUT: true; the input reads as it did. -/
def fnAddKeepsPictureWellFormedSpec : ChangeSpec := { name := "fnAddKeepsPictureWellFormed", fn := fun _ => fun
  | [d1, d2, d3, d4, d5, d6] => { results := [.lit (.bool true)], args := [d1, d2, d3, d4, d5, d6] }
  | _ => none }
def fnAddKeepsPictureWellFormedRow : OpenClaim := { program := "qxb6003667a", sum := "2c801746696dc7456e2af1bff77aea6dfc04231d16e5b2b83678089a35bfd5ed", func := "example.com/knotwise/knotwise/zzlaws_internal_cluster_g1.FnAddKeepsPictureWellFormed", spec := "fnAddKeepsPictureWellFormed", inPlace := ["slices.overlaps[*example.com/knotwise/knotwise/internal/cluster.reported]", "slices.overlaps[string]"], unfollowed := true, recurses := true, plainKeys := false, apart := false }
def FnAddKeepsPictureWellFormedSaid : Prop := fnAddKeepsPictureWellFormedRow.holds Try.pinned (OpenSpec.ofChange fnAddKeepsPictureWellFormedSpec)

/-- ITS FALSE NEIGHBOUR: 'it returns false'. Refute it at one input. -/
def fnAddKeepsPictureWellFormedWrong : ChangeSpec := { name := "fnAddKeepsPictureWellFormed", fn := fun _ => fun
  | [d1, d2, d3, d4, d5, d6] => { results := [.lit (.bool false)], args := [d1, d2, d3, d4, d5, d6] }
  | _ => none }
def FnAddKeepsPictureWellFormedWrongFalsely : Prop := fnAddKeepsPictureWellFormedRow.holds Try.pinned (OpenSpec.ofChange fnAddKeepsPictureWellFormedWrong)

/-- 'zzlaws_internal_cluster_g1.FnBlockingAndBlockedAgreeWithNames': WHATEVER THE INPUT: true; the input reads as it did. -/
def fnBlockingAndBlockedAgreeWithNamesSpec : ChangeSpec := { name := "fnBlockingAndBlockedAgreeWithNames", fn := fun _ => fun
  | [d1, d2, d3, d4, d5, d6] => { results := [.lit (.bool true)], args := [d1, d2, d3, d4, d5, d6] }
  | _ => none }
def fnBlockingAndBlockedAgreeWithNamesRow : OpenClaim := { program := "qxb6003667a", sum := "2c801746696dc7456e2af1bff77aea6dfc04231d16e5b2b83678089a35bfd5ed", func := "example.com/knotwise/knotwise/zzlaws_internal_cluster_g1.FnBlockingAndBlockedAgreeWithNames", spec := "fnBlockingAndBlockedAgreeWithNames", inPlace := ["slices.overlaps[*example.com/knotwise/knotwise/internal/cluster.reported]", "slices.overlaps[string]"], unfollowed := true, recurses := true, plainKeys := false, apart := false }
def FnBlockingAndBlockedAgreeWithNamesSaid : Prop := fnBlockingAndBlockedAgreeWithNamesRow.holds Try.pinned (OpenSpec.ofChange fnBlockingAndBlockedAgreeWithNamesSpec)

/-- ITS FALSE NEIGHBOUR: 'it returns false'. Refute it at one input. -/
def fnBlockingAndBlockedAgreeWithNamesWrong : ChangeSpec := { name := "fnBlockingAndBlockedAgreeWithNames", fn := fun _ => fun
  | [d1, d2, d3, d4, d5, d6] => { results := [.lit (.bool false)], args := [d1, d2, d3, d4, d5, d6] }
  | _ => none }
def FnBlockingAndBlockedAgreeWithNamesWrongFalsely : Prop := fnBlockingAndBlockedAgreeWithNamesRow.holds Try.pinned (OpenSpec.ofChange fnBlockingAndBlockedAgreeWithNamesWrong)

end Rows
end Go.Proofs.Qxb6003667a
