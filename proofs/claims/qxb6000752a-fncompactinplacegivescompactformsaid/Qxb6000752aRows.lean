/-
  No cell of these rows narrows 'for every input' (looked for: loops, veiled, ifaces, maps, wideKeys, modest, calm, conditions, laid).
  DERIVED. THE GIVEN ROWS OF THIS SEAT. 8 by the template 'for every input the law returns true; each argument reads behind the call as it read before'; 0 by the template 'total and deterministic' (their statements: Qxb6000752aTotals.lean).
  GIVEN WITH THE SEED: the statements are not yours to turn. If you find one false, say at which input.
  Laid BY PROGRAM, IN A SANDBOX (cutbox-rows.mjs): the forced cells as the released guide's own fill.sh prints them over the translation 4245a53f69c19b30… (all of the seat's roots in one cut). By AI agents, Wed Nov 11 2026. No macro, syntax, notation, axiom, sorry.
-/
import Derived.Test.Qxb6000752aChecked
import GoSem.Claim
import GoSem.ClaimJoined
import GoSem.ClaimMapViews
import Derived.JoinedTies
import Derived.KernelRfl
namespace Go.Proofs.Qxb6000752a
/- THE CELL 'sum', in the pinned program and in every row, IS THE sha256 OF THE DUMP (.gsa) THAT Qxb6000752aProg.lean LOADS. Nothing in Lean hashes anything: it is a label: what it is worth is what the hold of that sum in a sandbox is worth. -/
noncomputable def Try.pinned : Pinned := { name := "qxb6000752a", sum := "4245a53f69c19b308a34a025544fae08ab32612ae69a4c05517bf5e500f477d9", checked := Try.checked }
namespace Rows
def none {H : Type} : Left H := { results := [], args := [] }

/-- 'zzlaws_root_b1.FnHexRuneReadsBackFourDigits': WHATEVER THE INPUT: true; the input reads as it did. -/
def fnHexRuneReadsBackFourDigitsSpec : ChangeSpec := { name := "fnHexRuneReadsBackFourDigits", fn := fun _ => fun
  | [d1, d2, d3] => { results := [.lit (.bool true)], args := [d1, d2, d3] }
  | _ => none }
def fnHexRuneReadsBackFourDigitsRow : OpenClaim := { program := "qxb6000752a", sum := "4245a53f69c19b308a34a025544fae08ab32612ae69a4c05517bf5e500f477d9", func := "example.com/plain-rpc/plain-rpc/zzlaws_root_b1.FnHexRuneReadsBackFourDigits", spec := "fnHexRuneReadsBackFourDigits", apart := false }
def FnHexRuneReadsBackFourDigitsSaid : Prop := fnHexRuneReadsBackFourDigitsRow.holds Try.pinned (OpenSpec.ofChange fnHexRuneReadsBackFourDigitsSpec)

/-- ITS FALSE NEIGHBOUR: 'it returns false'. Refute it at one input. -/
def fnHexRuneReadsBackFourDigitsWrong : ChangeSpec := { name := "fnHexRuneReadsBackFourDigits", fn := fun _ => fun
  | [d1, d2, d3] => { results := [.lit (.bool false)], args := [d1, d2, d3] }
  | _ => none }
def FnHexRuneReadsBackFourDigitsWrongFalsely : Prop := fnHexRuneReadsBackFourDigitsRow.holds Try.pinned (OpenSpec.ofChange fnHexRuneReadsBackFourDigitsWrong)

/-- 'zzlaws_root_b1.FnHexRuneRefusesExactlyNonHex': WHATEVER THE INPUT: true; the input reads as it did. -/
def fnHexRuneRefusesExactlyNonHexSpec : ChangeSpec := { name := "fnHexRuneRefusesExactlyNonHex", fn := fun _ => fun
  | [d] => { results := [.lit (.bool true)], args := [d] }
  | _ => none }
def fnHexRuneRefusesExactlyNonHexRow : OpenClaim := { program := "qxb6000752a", sum := "4245a53f69c19b308a34a025544fae08ab32612ae69a4c05517bf5e500f477d9", func := "example.com/plain-rpc/plain-rpc/zzlaws_root_b1.FnHexRuneRefusesExactlyNonHex", spec := "fnHexRuneRefusesExactlyNonHex", apart := false }
def FnHexRuneRefusesExactlyNonHexSaid : Prop := fnHexRuneRefusesExactlyNonHexRow.holds Try.pinned (OpenSpec.ofChange fnHexRuneRefusesExactlyNonHexSpec)

/-- ITS FALSE NEIGHBOUR: 'it returns false'. Refute it at one input. -/
def fnHexRuneRefusesExactlyNonHexWrong : ChangeSpec := { name := "fnHexRuneRefusesExactlyNonHex", fn := fun _ => fun
  | [d] => { results := [.lit (.bool false)], args := [d] }
  | _ => none }
def FnHexRuneRefusesExactlyNonHexWrongFalsely : Prop := fnHexRuneRefusesExactlyNonHexRow.holds Try.pinned (OpenSpec.ofChange fnHexRuneRefusesExactlyNonHexWrong)

/-- 'zzlaws_root_b1.FnHexRuneOrderFollowsDigitOrder': WHATEVER THE INPUT: true; the input reads as it did. -/
def fnHexRuneOrderFollowsDigitOrderSpec : ChangeSpec := { name := "fnHexRuneOrderFollowsDigitOrder", fn := fun _ => fun
  | [d1, d2] => { results := [.lit (.bool true)], args := [d1, d2] }
  | _ => none }
def fnHexRuneOrderFollowsDigitOrderRow : OpenClaim := { program := "qxb6000752a", sum := "4245a53f69c19b308a34a025544fae08ab32612ae69a4c05517bf5e500f477d9", func := "example.com/plain-rpc/plain-rpc/zzlaws_root_b1.FnHexRuneOrderFollowsDigitOrder", spec := "fnHexRuneOrderFollowsDigitOrder", apart := false }
def FnHexRuneOrderFollowsDigitOrderSaid : Prop := fnHexRuneOrderFollowsDigitOrderRow.holds Try.pinned (OpenSpec.ofChange fnHexRuneOrderFollowsDigitOrderSpec)

/-- ITS FALSE NEIGHBOUR: 'it returns false'. Refute it at one input. -/
def fnHexRuneOrderFollowsDigitOrderWrong : ChangeSpec := { name := "fnHexRuneOrderFollowsDigitOrder", fn := fun _ => fun
  | [d1, d2] => { results := [.lit (.bool false)], args := [d1, d2] }
  | _ => none }
def FnHexRuneOrderFollowsDigitOrderWrongFalsely : Prop := fnHexRuneOrderFollowsDigitOrderRow.holds Try.pinned (OpenSpec.ofChange fnHexRuneOrderFollowsDigitOrderWrong)

/-- 'zzlaws_root_b1.FnCompactInPlaceGivesCompactForm': WHATEVER THE INPUT: true; the input reads as it did. -/
def fnCompactInPlaceGivesCompactFormSpec : ChangeSpec := { name := "fnCompactInPlaceGivesCompactForm", fn := fun _ => fun
  | [d1, d2, d3] => { results := [.lit (.bool true)], args := [d1, d2, d3] }
  | _ => none }
def fnCompactInPlaceGivesCompactFormRow : OpenClaim := { program := "qxb6000752a", sum := "4245a53f69c19b308a34a025544fae08ab32612ae69a4c05517bf5e500f477d9", func := "example.com/plain-rpc/plain-rpc/zzlaws_root_b1.FnCompactInPlaceGivesCompactForm", spec := "fnCompactInPlaceGivesCompactForm", apart := false }
def FnCompactInPlaceGivesCompactFormSaid : Prop := fnCompactInPlaceGivesCompactFormRow.holds Try.pinned (OpenSpec.ofChange fnCompactInPlaceGivesCompactFormSpec)

/-- ITS FALSE NEIGHBOUR: 'it returns false'. Refute it at one input. -/
def fnCompactInPlaceGivesCompactFormWrong : ChangeSpec := { name := "fnCompactInPlaceGivesCompactForm", fn := fun _ => fun
  | [d1, d2, d3] => { results := [.lit (.bool false)], args := [d1, d2, d3] }
  | _ => none }
def FnCompactInPlaceGivesCompactFormWrongFalsely : Prop := fnCompactInPlaceGivesCompactFormRow.holds Try.pinned (OpenSpec.ofChange fnCompactInPlaceGivesCompactFormWrong)

/-- 'zzlaws_root_b1.FnCompactInPlaceIdempotentDropsOnlySpace': WHATEVER THE INPUT: true; the input reads as it did. -/
def fnCompactInPlaceIdempotentDropsOnlySpaceSpec : ChangeSpec := { name := "fnCompactInPlaceIdempotentDropsOnlySpace", fn := fun _ => fun
  | [d] => { results := [.lit (.bool true)], args := [d] }
  | _ => none }
def fnCompactInPlaceIdempotentDropsOnlySpaceRow : OpenClaim := { program := "qxb6000752a", sum := "4245a53f69c19b308a34a025544fae08ab32612ae69a4c05517bf5e500f477d9", func := "example.com/plain-rpc/plain-rpc/zzlaws_root_b1.FnCompactInPlaceIdempotentDropsOnlySpace", spec := "fnCompactInPlaceIdempotentDropsOnlySpace", apart := false }
def FnCompactInPlaceIdempotentDropsOnlySpaceSaid : Prop := fnCompactInPlaceIdempotentDropsOnlySpaceRow.holds Try.pinned (OpenSpec.ofChange fnCompactInPlaceIdempotentDropsOnlySpaceSpec)

/-- ITS FALSE NEIGHBOUR: 'it returns false'. Refute it at one input. -/
def fnCompactInPlaceIdempotentDropsOnlySpaceWrong : ChangeSpec := { name := "fnCompactInPlaceIdempotentDropsOnlySpace", fn := fun _ => fun
  | [d] => { results := [.lit (.bool false)], args := [d] }
  | _ => none }
def FnCompactInPlaceIdempotentDropsOnlySpaceWrongFalsely : Prop := fnCompactInPlaceIdempotentDropsOnlySpaceRow.holds Try.pinned (OpenSpec.ofChange fnCompactInPlaceIdempotentDropsOnlySpaceWrong)

/-- 'zzlaws_root_b1.FnBeginValueAcceptsExactlyValueStarts': WHATEVER THE INPUT: true; the input reads as it did. -/
def fnBeginValueAcceptsExactlyValueStartsSpec : ChangeSpec := { name := "fnBeginValueAcceptsExactlyValueStarts", fn := fun _ => fun
  | [d1, d2, d3, d4, d5, d6, d7, d8] => { results := [.lit (.bool true)], args := [d1, d2, d3, d4, d5, d6, d7, d8] }
  | _ => none }
def fnBeginValueAcceptsExactlyValueStartsRow : OpenClaim := { program := "qxb6000752a", sum := "4245a53f69c19b308a34a025544fae08ab32612ae69a4c05517bf5e500f477d9", func := "example.com/plain-rpc/plain-rpc/zzlaws_root_b1.FnBeginValueAcceptsExactlyValueStarts", spec := "fnBeginValueAcceptsExactlyValueStarts", apart := false }
def FnBeginValueAcceptsExactlyValueStartsSaid : Prop := fnBeginValueAcceptsExactlyValueStartsRow.holds Try.pinned (OpenSpec.ofChange fnBeginValueAcceptsExactlyValueStartsSpec)

/-- ITS FALSE NEIGHBOUR: 'it returns false'. Refute it at one input. -/
def fnBeginValueAcceptsExactlyValueStartsWrong : ChangeSpec := { name := "fnBeginValueAcceptsExactlyValueStarts", fn := fun _ => fun
  | [d1, d2, d3, d4, d5, d6, d7, d8] => { results := [.lit (.bool false)], args := [d1, d2, d3, d4, d5, d6, d7, d8] }
  | _ => none }
def FnBeginValueAcceptsExactlyValueStartsWrongFalsely : Prop := fnBeginValueAcceptsExactlyValueStartsRow.holds Try.pinned (OpenSpec.ofChange fnBeginValueAcceptsExactlyValueStartsWrong)

/-- 'zzlaws_root_b1.FnBeginValueOpenSetsOnlyItsKindBit': WHATEVER THE INPUT: true; the input reads as it did. -/
def fnBeginValueOpenSetsOnlyItsKindBitSpec : ChangeSpec := { name := "fnBeginValueOpenSetsOnlyItsKindBit", fn := fun _ => fun
  | [d1, d2, d3, d4, d5] => { results := [.lit (.bool true)], args := [d1, d2, d3, d4, d5] }
  | _ => none }
def fnBeginValueOpenSetsOnlyItsKindBitRow : OpenClaim := { program := "qxb6000752a", sum := "4245a53f69c19b308a34a025544fae08ab32612ae69a4c05517bf5e500f477d9", func := "example.com/plain-rpc/plain-rpc/zzlaws_root_b1.FnBeginValueOpenSetsOnlyItsKindBit", spec := "fnBeginValueOpenSetsOnlyItsKindBit", apart := false }
def FnBeginValueOpenSetsOnlyItsKindBitSaid : Prop := fnBeginValueOpenSetsOnlyItsKindBitRow.holds Try.pinned (OpenSpec.ofChange fnBeginValueOpenSetsOnlyItsKindBitSpec)

/-- ITS FALSE NEIGHBOUR: 'it returns false'. Refute it at one input. -/
def fnBeginValueOpenSetsOnlyItsKindBitWrong : ChangeSpec := { name := "fnBeginValueOpenSetsOnlyItsKindBit", fn := fun _ => fun
  | [d1, d2, d3, d4, d5] => { results := [.lit (.bool false)], args := [d1, d2, d3, d4, d5] }
  | _ => none }
def FnBeginValueOpenSetsOnlyItsKindBitWrongFalsely : Prop := fnBeginValueOpenSetsOnlyItsKindBitRow.holds Try.pinned (OpenSpec.ofChange fnBeginValueOpenSetsOnlyItsKindBitWrong)

/-- 'zzlaws_root_b1.FnBeginValueNestingRoundTrip': WHATEVER THE INPUT: true; the input reads as it did. -/
def fnBeginValueNestingRoundTripSpec : ChangeSpec := { name := "fnBeginValueNestingRoundTrip", fn := fun _ => fun
  | [d1, d2] => { results := [.lit (.bool true)], args := [d1, d2] }
  | _ => none }
def fnBeginValueNestingRoundTripRow : OpenClaim := { program := "qxb6000752a", sum := "4245a53f69c19b308a34a025544fae08ab32612ae69a4c05517bf5e500f477d9", func := "example.com/plain-rpc/plain-rpc/zzlaws_root_b1.FnBeginValueNestingRoundTrip", spec := "fnBeginValueNestingRoundTrip", apart := false }
def FnBeginValueNestingRoundTripSaid : Prop := fnBeginValueNestingRoundTripRow.holds Try.pinned (OpenSpec.ofChange fnBeginValueNestingRoundTripSpec)

/-- ITS FALSE NEIGHBOUR: 'it returns false'. Refute it at one input. -/
def fnBeginValueNestingRoundTripWrong : ChangeSpec := { name := "fnBeginValueNestingRoundTrip", fn := fun _ => fun
  | [d1, d2] => { results := [.lit (.bool false)], args := [d1, d2] }
  | _ => none }
def FnBeginValueNestingRoundTripWrongFalsely : Prop := fnBeginValueNestingRoundTripRow.holds Try.pinned (OpenSpec.ofChange fnBeginValueNestingRoundTripWrong)

end Rows
end Go.Proofs.Qxb6000752a
