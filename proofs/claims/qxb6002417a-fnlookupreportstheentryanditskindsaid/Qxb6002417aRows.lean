/-
  No cell of these rows narrows 'for every input' (looked for: loops, veiled, ifaces, maps, wideKeys, modest, calm, conditions, laid).
  DERIVED. THE GIVEN ROWS OF THIS SEAT. 5 by the template 'for every input the law returns true; each argument reads behind the call as it read before'; 0 by the template 'total and deterministic' (their statements: Qxb6002417aTotals.lean).
  GIVEN WITH THE SEED: the statements are not yours to turn. If you find one false, say at which input.
  Laid BY PROGRAM, IN A SANDBOX (cutbox-rows.mjs): the forced cells as the released guide's own fill.sh prints them over the translation fbb23ee27963134d… (all of the seat's roots in one cut). By AI agents, Wed Nov 11 2026. No macro, syntax, notation, axiom, sorry.
-/
import Derived.Test.Qxb6002417aChecked
import GoSem.Claim
import GoSem.ClaimJoined
import GoSem.ClaimMapViews
import Derived.JoinedTies
import Derived.KernelRfl
namespace Go.Proofs.Qxb6002417a
/- THE CELL 'sum', in the pinned program and in every row, IS THE sha256 OF THE DUMP (.gsa) THAT Qxb6002417aProg.lean LOADS. Nothing in Lean hashes anything: it is a label: what it is worth is what the hold of that sum in a sandbox is worth. -/
noncomputable def Try.pinned : Pinned := { name := "qxb6002417a", sum := "fbb23ee27963134dfe13dd31fa62d05b5873135e6a77831a67a2565219c0a380", checked := Try.checked }
namespace Rows
def none {H : Type} : Left H := { results := [], args := [] }

/-- 'zzlaws_internal_resolve_g1.FnCheckNameExactSpec': WHATEVER THE INPUT: true; the input reads as it did. -/
def fnCheckNameExactSpecSpec : ChangeSpec := { name := "fnCheckNameExactSpec", fn := fun _ => fun
  | [d] => { results := [.lit (.bool true)], args := [d] }
  | _ => none }
def fnCheckNameExactSpecRow : OpenClaim := { program := "qxb6002417a", sum := "fbb23ee27963134dfe13dd31fa62d05b5873135e6a77831a67a2565219c0a380", func := "example.com/underglass/underglass/zzlaws_internal_resolve_g1.FnCheckNameExactSpec", spec := "fnCheckNameExactSpec", inPlace := ["internal/bytealg.IndexByteString"], apart := false }
def FnCheckNameExactSpecSaid : Prop := fnCheckNameExactSpecRow.holds Try.pinned (OpenSpec.ofChange fnCheckNameExactSpecSpec)

/-- ITS FALSE NEIGHBOUR: 'it returns false'. Refute it at one input. -/
def fnCheckNameExactSpecWrong : ChangeSpec := { name := "fnCheckNameExactSpec", fn := fun _ => fun
  | [d] => { results := [.lit (.bool false)], args := [d] }
  | _ => none }
def FnCheckNameExactSpecWrongFalsely : Prop := fnCheckNameExactSpecRow.holds Try.pinned (OpenSpec.ofChange fnCheckNameExactSpecWrong)

/-- 'zzlaws_internal_resolve_g1.FnCheckElemExactSpec': WHATEVER THE INPUT: true; the input reads as it did. -/
def fnCheckElemExactSpecSpec : ChangeSpec := { name := "fnCheckElemExactSpec", fn := fun _ => fun
  | [d] => { results := [.lit (.bool true)], args := [d] }
  | _ => none }
def fnCheckElemExactSpecRow : OpenClaim := { program := "qxb6002417a", sum := "fbb23ee27963134dfe13dd31fa62d05b5873135e6a77831a67a2565219c0a380", func := "example.com/underglass/underglass/zzlaws_internal_resolve_g1.FnCheckElemExactSpec", spec := "fnCheckElemExactSpec", inPlace := ["internal/bytealg.IndexByteString"], apart := false }
def FnCheckElemExactSpecSaid : Prop := fnCheckElemExactSpecRow.holds Try.pinned (OpenSpec.ofChange fnCheckElemExactSpecSpec)

/-- ITS FALSE NEIGHBOUR: 'it returns false'. Refute it at one input. -/
def fnCheckElemExactSpecWrong : ChangeSpec := { name := "fnCheckElemExactSpec", fn := fun _ => fun
  | [d] => { results := [.lit (.bool false)], args := [d] }
  | _ => none }
def FnCheckElemExactSpecWrongFalsely : Prop := fnCheckElemExactSpecRow.holds Try.pinned (OpenSpec.ofChange fnCheckElemExactSpecWrong)

/-- 'zzlaws_internal_resolve_g1.FnCheckLinkExactSpec': WHATEVER THE INPUT: true; the input reads as it did. -/
def fnCheckLinkExactSpecSpec : ChangeSpec := { name := "fnCheckLinkExactSpec", fn := fun _ => fun
  | [d1, d2] => { results := [.lit (.bool true)], args := [d1, d2] }
  | _ => none }
def fnCheckLinkExactSpecRow : OpenClaim := { program := "qxb6002417a", sum := "fbb23ee27963134dfe13dd31fa62d05b5873135e6a77831a67a2565219c0a380", func := "example.com/underglass/underglass/zzlaws_internal_resolve_g1.FnCheckLinkExactSpec", spec := "fnCheckLinkExactSpec", inPlace := ["internal/bytealg.IndexByteString"], apart := false }
def FnCheckLinkExactSpecSaid : Prop := fnCheckLinkExactSpecRow.holds Try.pinned (OpenSpec.ofChange fnCheckLinkExactSpecSpec)

/-- ITS FALSE NEIGHBOUR: 'it returns false'. Refute it at one input. -/
def fnCheckLinkExactSpecWrong : ChangeSpec := { name := "fnCheckLinkExactSpec", fn := fun _ => fun
  | [d1, d2] => { results := [.lit (.bool false)], args := [d1, d2] }
  | _ => none }
def FnCheckLinkExactSpecWrongFalsely : Prop := fnCheckLinkExactSpecRow.holds Try.pinned (OpenSpec.ofChange fnCheckLinkExactSpecWrong)

/-- 'zzlaws_memfs_g1.FnChildFindsExactlyTheNamedEntry': WHATEVER THE INPUT: true; the input reads as it did. -/
def fnChildFindsExactlyTheNamedEntrySpec : ChangeSpec := { name := "fnChildFindsExactlyTheNamedEntry", fn := fun _ => fun
  | [d1, d2, d3, d4] => { results := [.lit (.bool true)], args := [d1, d2, d3, d4] }
  | _ => none }
def fnChildFindsExactlyTheNamedEntryRow : OpenClaim := { program := "qxb6002417a", sum := "fbb23ee27963134dfe13dd31fa62d05b5873135e6a77831a67a2565219c0a380", func := "example.com/underglass/underglass/zzlaws_memfs_g1.FnChildFindsExactlyTheNamedEntry", spec := "fnChildFindsExactlyTheNamedEntry", inPlace := ["internal/bytealg.IndexByteString"], apart := false }
def FnChildFindsExactlyTheNamedEntrySaid : Prop := fnChildFindsExactlyTheNamedEntryRow.holds Try.pinned (OpenSpec.ofChange fnChildFindsExactlyTheNamedEntrySpec)

/-- ITS FALSE NEIGHBOUR: 'it returns false'. Refute it at one input. -/
def fnChildFindsExactlyTheNamedEntryWrong : ChangeSpec := { name := "fnChildFindsExactlyTheNamedEntry", fn := fun _ => fun
  | [d1, d2, d3, d4] => { results := [.lit (.bool false)], args := [d1, d2, d3, d4] }
  | _ => none }
def FnChildFindsExactlyTheNamedEntryWrongFalsely : Prop := fnChildFindsExactlyTheNamedEntryRow.holds Try.pinned (OpenSpec.ofChange fnChildFindsExactlyTheNamedEntryWrong)

/-- 'zzlaws_memfs_g1.FnLookupReportsTheEntryAndItsKind': WHATEVER THE INPUT: true; the input reads as it did. -/
def fnLookupReportsTheEntryAndItsKindSpec : ChangeSpec := { name := "fnLookupReportsTheEntryAndItsKind", fn := fun _ => fun
  | [d1, d2, d3, d4, d5, d6] => { results := [.lit (.bool true)], args := [d1, d2, d3, d4, d5, d6] }
  | _ => none }
def fnLookupReportsTheEntryAndItsKindRow : OpenClaim := { program := "qxb6002417a", sum := "fbb23ee27963134dfe13dd31fa62d05b5873135e6a77831a67a2565219c0a380", func := "example.com/underglass/underglass/zzlaws_memfs_g1.FnLookupReportsTheEntryAndItsKind", spec := "fnLookupReportsTheEntryAndItsKind", inPlace := ["internal/bytealg.IndexByteString"], apart := false }
def FnLookupReportsTheEntryAndItsKindSaid : Prop := fnLookupReportsTheEntryAndItsKindRow.holds Try.pinned (OpenSpec.ofChange fnLookupReportsTheEntryAndItsKindSpec)

/-- ITS FALSE NEIGHBOUR: 'it returns false'. Refute it at one input. -/
def fnLookupReportsTheEntryAndItsKindWrong : ChangeSpec := { name := "fnLookupReportsTheEntryAndItsKind", fn := fun _ => fun
  | [d1, d2, d3, d4, d5, d6] => { results := [.lit (.bool false)], args := [d1, d2, d3, d4, d5, d6] }
  | _ => none }
def FnLookupReportsTheEntryAndItsKindWrongFalsely : Prop := fnLookupReportsTheEntryAndItsKindRow.holds Try.pinned (OpenSpec.ofChange fnLookupReportsTheEntryAndItsKindWrong)

end Rows
end Go.Proofs.Qxb6002417a
