/-
  No cell of these rows narrows 'for every input' (looked for: loops, veiled, ifaces, maps, wideKeys, modest, calm, conditions, laid).
  DERIVED. THE GIVEN ROWS OF THIS SEAT. 5 by the template 'for every input the law returns true; each argument reads behind the call as it read before'; 0 by the template 'total and deterministic' (their statements: Qxb6612254aTotals.lean).
  GIVEN WITH THE SEED: the statements are not yours to turn. If you find one false, say at which input.
  Laid BY PROGRAM, IN A SANDBOX (cutbox-rows.mjs): the forced cells as the released guide's own fill.sh prints them over the translation 63a6201623f23d39… (all of the seat's roots in one cut). By AI agents, Wed Nov 11 2026. No macro, syntax, notation, axiom, sorry.
-/
import Derived.Test.Qxb6612254aChecked
import GoSem.Claim
import GoSem.ClaimJoined
import GoSem.ClaimMapViews
import Derived.JoinedTies
import Derived.KernelRfl
namespace Go.Proofs.Qxb6612254a
/- THE CELL 'sum', in the pinned program and in every row, IS THE sha256 OF THE DUMP (.gsa) THAT Qxb6612254aProg.lean LOADS. Nothing in Lean hashes anything: it is a label: what it is worth is what the hold of that sum in a sandbox is worth. -/
noncomputable def Try.pinned : Pinned := { name := "qxb6612254a", sum := "63a6201623f23d395abaaf3585aed0a5b181959e24082cf1599f3a40d55b9b86", checked := Try.checked }
namespace Rows
def none {H : Type} : Left H := { results := [], args := [] }

/-- 'zzlaws_root_b1.FnListNameStringReadsBack': WHATEVER THE INPUT: true; the input reads as it did. -/
def fnListNameStringReadsBackSpec : ChangeSpec := { name := "fnListNameStringReadsBack", fn := fun _ => fun
  | [d1, d2, d3] => { results := [.lit (.bool true)], args := [d1, d2, d3] }
  | _ => none }
def fnListNameStringReadsBackRow : OpenClaim := { program := "qxb6612254a", sum := "63a6201623f23d395abaaf3585aed0a5b181959e24082cf1599f3a40d55b9b86", func := "example.com/hashward/hashward/zzlaws_root_b1.FnListNameStringReadsBack", spec := "fnListNameStringReadsBack", apart := false }
def FnListNameStringReadsBackSaid : Prop := fnListNameStringReadsBackRow.holds Try.pinned (OpenSpec.ofChange fnListNameStringReadsBackSpec)

/-- ITS FALSE NEIGHBOUR: 'it returns false'. Refute it at one input. -/
def fnListNameStringReadsBackWrong : ChangeSpec := { name := "fnListNameStringReadsBack", fn := fun _ => fun
  | [d1, d2, d3] => { results := [.lit (.bool false)], args := [d1, d2, d3] }
  | _ => none }
def FnListNameStringReadsBackWrongFalsely : Prop := fnListNameStringReadsBackRow.holds Try.pinned (OpenSpec.ofChange fnListNameStringReadsBackWrong)

/-- 'zzlaws_root_b1.FnListNameStringTellsNamesApart': WHATEVER THE INPUT: true; the input reads as it did. -/
def fnListNameStringTellsNamesApartSpec : ChangeSpec := { name := "fnListNameStringTellsNamesApart", fn := fun _ => fun
  | [d1, d2, d3, d4, d5, d6] => { results := [.lit (.bool true)], args := [d1, d2, d3, d4, d5, d6] }
  | _ => none }
def fnListNameStringTellsNamesApartRow : OpenClaim := { program := "qxb6612254a", sum := "63a6201623f23d395abaaf3585aed0a5b181959e24082cf1599f3a40d55b9b86", func := "example.com/hashward/hashward/zzlaws_root_b1.FnListNameStringTellsNamesApart", spec := "fnListNameStringTellsNamesApart", apart := false }
def FnListNameStringTellsNamesApartSaid : Prop := fnListNameStringTellsNamesApartRow.holds Try.pinned (OpenSpec.ofChange fnListNameStringTellsNamesApartSpec)

/-- ITS FALSE NEIGHBOUR: 'it returns false'. Refute it at one input. -/
def fnListNameStringTellsNamesApartWrong : ChangeSpec := { name := "fnListNameStringTellsNamesApart", fn := fun _ => fun
  | [d1, d2, d3, d4, d5, d6] => { results := [.lit (.bool false)], args := [d1, d2, d3, d4, d5, d6] }
  | _ => none }
def FnListNameStringTellsNamesApartWrongFalsely : Prop := fnListNameStringTellsNamesApartRow.holds Try.pinned (OpenSpec.ofChange fnListNameStringTellsNamesApartWrong)

/-- 'zzlaws_root_b1.FnListErrorTextParsesBack': WHATEVER THE INPUT: true; the input reads as it did. -/
def fnListErrorTextParsesBackSpec : ChangeSpec := { name := "fnListErrorTextParsesBack", fn := fun _ => fun
  | [d1, d2, d3, d4] => { results := [.lit (.bool true)], args := [d1, d2, d3, d4] }
  | _ => none }
def fnListErrorTextParsesBackRow : OpenClaim := { program := "qxb6612254a", sum := "63a6201623f23d395abaaf3585aed0a5b181959e24082cf1599f3a40d55b9b86", func := "example.com/hashward/hashward/zzlaws_root_b1.FnListErrorTextParsesBack", spec := "fnListErrorTextParsesBack", unfollowed := true, recurses := true, apart := false }
def FnListErrorTextParsesBackSaid : Prop := fnListErrorTextParsesBackRow.holds Try.pinned (OpenSpec.ofChange fnListErrorTextParsesBackSpec)

/-- ITS FALSE NEIGHBOUR: 'it returns false'. Refute it at one input. -/
def fnListErrorTextParsesBackWrong : ChangeSpec := { name := "fnListErrorTextParsesBack", fn := fun _ => fun
  | [d1, d2, d3, d4] => { results := [.lit (.bool false)], args := [d1, d2, d3, d4] }
  | _ => none }
def FnListErrorTextParsesBackWrongFalsely : Prop := fnListErrorTextParsesBackRow.holds Try.pinned (OpenSpec.ofChange fnListErrorTextParsesBackWrong)

/-- 'zzlaws_root_b1.FnCountWholePrefixes': WHATEVER THE INPUT: true; the input reads as it did. -/
def fnCountWholePrefixesSpec : ChangeSpec := { name := "fnCountWholePrefixes", fn := fun _ => fun
  | [d1, d2] => { results := [.lit (.bool true)], args := [d1, d2] }
  | _ => none }
def fnCountWholePrefixesRow : OpenClaim := { program := "qxb6612254a", sum := "63a6201623f23d395abaaf3585aed0a5b181959e24082cf1599f3a40d55b9b86", func := "example.com/hashward/hashward/zzlaws_root_b1.FnCountWholePrefixes", spec := "fnCountWholePrefixes", apart := false }
def FnCountWholePrefixesSaid : Prop := fnCountWholePrefixesRow.holds Try.pinned (OpenSpec.ofChange fnCountWholePrefixesSpec)

/-- ITS FALSE NEIGHBOUR: 'it returns false'. Refute it at one input. -/
def fnCountWholePrefixesWrong : ChangeSpec := { name := "fnCountWholePrefixes", fn := fun _ => fun
  | [d1, d2] => { results := [.lit (.bool false)], args := [d1, d2] }
  | _ => none }
def FnCountWholePrefixesWrongFalsely : Prop := fnCountWholePrefixesRow.holds Try.pinned (OpenSpec.ofChange fnCountWholePrefixesWrong)

/-- 'zzlaws_root_b1.FnCountOneMorePrefix': WHATEVER THE INPUT: true; the input reads as it did. -/
def fnCountOneMorePrefixSpec : ChangeSpec := { name := "fnCountOneMorePrefix", fn := fun _ => fun
  | [d1, d2] => { results := [.lit (.bool true)], args := [d1, d2] }
  | _ => none }
def fnCountOneMorePrefixRow : OpenClaim := { program := "qxb6612254a", sum := "63a6201623f23d395abaaf3585aed0a5b181959e24082cf1599f3a40d55b9b86", func := "example.com/hashward/hashward/zzlaws_root_b1.FnCountOneMorePrefix", spec := "fnCountOneMorePrefix", apart := false }
def FnCountOneMorePrefixSaid : Prop := fnCountOneMorePrefixRow.holds Try.pinned (OpenSpec.ofChange fnCountOneMorePrefixSpec)

/-- ITS FALSE NEIGHBOUR: 'it returns false'. Refute it at one input. -/
def fnCountOneMorePrefixWrong : ChangeSpec := { name := "fnCountOneMorePrefix", fn := fun _ => fun
  | [d1, d2] => { results := [.lit (.bool false)], args := [d1, d2] }
  | _ => none }
def FnCountOneMorePrefixWrongFalsely : Prop := fnCountOneMorePrefixRow.holds Try.pinned (OpenSpec.ofChange fnCountOneMorePrefixWrong)

end Rows
end Go.Proofs.Qxb6612254a
