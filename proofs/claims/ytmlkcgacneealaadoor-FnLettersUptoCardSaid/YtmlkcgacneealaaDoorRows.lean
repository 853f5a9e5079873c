/-
  NARROWER THAN 'FOR EVERY INPUT', by the rows' own cells (each row's printed sentence says how): FnAddrFrom4: laid · FnAddrFrom16: laid · FnAddrFromSlice: laid · FnSpecials: laid · FnAsSliceOfZero: laid · FnPrev: laid · FnNext: laid · FnOrderIsOfBytes: laid · FnMappedAndBack: laid · FnNextAndPrev: laid · FnSteps: laid · FnKinds: laid · FnNextIsLeast: laid · FnLengths: laid · FnSmallLetters: laid · FnKindsApart: laid · FnColonsForZeros: laid · FnColonsOnce: laid · FnLetters: laid · FnKindsOfUnmapped: laid · FnTextRoundTripBare: laid · FnDotted: laid.
  DERIVED. THE GIVEN ROWS OF THIS SEAT. 22 by the template 'for every input the law returns true; each argument reads behind the call as it read before'; 0 by the template 'total and deterministic' (their statements: YtmlkcgacneealaaDoorTotals.lean).
  GIVEN WITH THE SEED: the statements are not yours to turn. If you find one false, say at which input.
  Laid BY PROGRAM, IN A SANDBOX (cutbox-rows.mjs): the forced cells as the released guide's own fill.sh prints them over the translation 0402519a550f59ad… (all of the seat's roots in one cut). By AI agents, Wed Nov 11 2026. No macro, syntax, notation, axiom, sorry.
-/
import Derived.Test.YtmlkcgacneealaaDoorChecked
import GoSem.Claim
import GoSem.ClaimJoined
import GoSem.ClaimMapViews
import Derived.JoinedTies
import Derived.KernelRfl
namespace Go.Proofs.YtmlkcgacneealaaDoor
/- THE CELL 'sum', in the pinned program and in every row, IS THE sha256 OF THE DUMP (.gsa) THAT YtmlkcgacneealaaDoorProg.lean LOADS. Nothing in Lean hashes anything: it is a label: what it is worth is what the hold of that sum in a sandbox is worth. -/
noncomputable def Tryd.pinned : Pinned := { name := "ytmlkcgacneealaadoor", sum := "0402519a550f59ad4181b13b99b734d80298a42483ef58a08c2183fe1db26b19", checked := Tryd.checked }
namespace Rows
def none {H : Type} : Left H := { results := [], args := [] }

/- WHAT THE LISTED PACKAGE-LEVEL VARIABLES READ AS WHEN THE CALL BEGINS. Each datum BY PROGRAM (the guide's laid-datum.mjs) off the statement by which the dump's own 'gosem.cut.vars' lays the variable. In a bare row this is a premise. The card (YtmlkcgacneealaaDoorCards.lean) ties it to the program's text. -/
def laid_net_netip_z4 {H : Type} : DataW H := .agg [.ptr (.agg [.lit (.bool false), .lit (.string [])])]
def laid_net_netip_z0 {H : Type} : DataW H := .agg [.nil]
def laid_net_netip_z6noz {H : Type} : DataW H := .agg [.ptr (.agg [.lit (.bool true), .lit (.string [])])]

/-- 'laws.FnAddrFrom4': WHATEVER THE INPUT: true; the input reads as it did. -/
def fnAddrFrom4Spec : ChangeSpec := { name := "fnAddrFrom4", fn := fun _ => fun
  | [d] => { results := [.lit (.bool true)], args := [d] }
  | _ => none }
def fnAddrFrom4Row : OpenClaim := { program := "ytmlkcgacneealaadoor", sum := "0402519a550f59ad4181b13b99b734d80298a42483ef58a08c2183fe1db26b19", func := "lib-guidepost/laws.FnAddrFrom4", spec := "fnAddrFrom4", named := ["net/netip.z4", "net/netip.z0"], apart := false, laid := [("net/netip.z4", laid_net_netip_z4), ("net/netip.z0", laid_net_netip_z0)] }
def FnAddrFrom4Said : Prop := fnAddrFrom4Row.holds Tryd.pinned (OpenSpec.ofChange fnAddrFrom4Spec)

/-- ITS FALSE NEIGHBOUR: 'it returns false'. Refute it at one input. -/
def fnAddrFrom4Wrong : ChangeSpec := { name := "fnAddrFrom4", fn := fun _ => fun
  | [d] => { results := [.lit (.bool false)], args := [d] }
  | _ => none }
def FnAddrFrom4WrongFalsely : Prop := fnAddrFrom4Row.holds Tryd.pinned (OpenSpec.ofChange fnAddrFrom4Wrong)

/-- 'laws.FnAddrFrom16': WHATEVER THE INPUT: true; the input reads as it did. -/
def fnAddrFrom16Spec : ChangeSpec := { name := "fnAddrFrom16", fn := fun _ => fun
  | [d] => { results := [.lit (.bool true)], args := [d] }
  | _ => none }
def fnAddrFrom16Row : OpenClaim := { program := "ytmlkcgacneealaadoor", sum := "0402519a550f59ad4181b13b99b734d80298a42483ef58a08c2183fe1db26b19", func := "lib-guidepost/laws.FnAddrFrom16", spec := "fnAddrFrom16", named := ["net/netip.z6noz", "net/netip.z0", "net/netip.z4"], apart := false, laid := [("net/netip.z4", laid_net_netip_z4), ("net/netip.z6noz", laid_net_netip_z6noz), ("net/netip.z0", laid_net_netip_z0)] }
def FnAddrFrom16Said : Prop := fnAddrFrom16Row.holds Tryd.pinned (OpenSpec.ofChange fnAddrFrom16Spec)

/-- ITS FALSE NEIGHBOUR: 'it returns false'. Refute it at one input. -/
def fnAddrFrom16Wrong : ChangeSpec := { name := "fnAddrFrom16", fn := fun _ => fun
  | [d] => { results := [.lit (.bool false)], args := [d] }
  | _ => none }
def FnAddrFrom16WrongFalsely : Prop := fnAddrFrom16Row.holds Tryd.pinned (OpenSpec.ofChange fnAddrFrom16Wrong)

/-- 'laws.FnAddrFromSlice': WHATEVER THE INPUT: true; the input reads as it did. -/
def fnAddrFromSliceSpec : ChangeSpec := { name := "fnAddrFromSlice", fn := fun _ => fun
  | [d] => { results := [.lit (.bool true)], args := [d] }
  | _ => none }
def fnAddrFromSliceRow : OpenClaim := { program := "ytmlkcgacneealaadoor", sum := "0402519a550f59ad4181b13b99b734d80298a42483ef58a08c2183fe1db26b19", func := "lib-guidepost/laws.FnAddrFromSlice", spec := "fnAddrFromSlice", named := ["net/netip.z4", "net/netip.z6noz", "net/netip.z0"], apart := false, laid := [("net/netip.z4", laid_net_netip_z4), ("net/netip.z6noz", laid_net_netip_z6noz), ("net/netip.z0", laid_net_netip_z0)] }
def FnAddrFromSliceSaid : Prop := fnAddrFromSliceRow.holds Tryd.pinned (OpenSpec.ofChange fnAddrFromSliceSpec)

/-- ITS FALSE NEIGHBOUR: 'it returns false'. Refute it at one input. -/
def fnAddrFromSliceWrong : ChangeSpec := { name := "fnAddrFromSlice", fn := fun _ => fun
  | [d] => { results := [.lit (.bool false)], args := [d] }
  | _ => none }
def FnAddrFromSliceWrongFalsely : Prop := fnAddrFromSliceRow.holds Tryd.pinned (OpenSpec.ofChange fnAddrFromSliceWrong)

/-- 'laws.FnSpecials': WHATEVER THE INPUT: true; the input reads as it did. -/
def fnSpecialsSpec : ChangeSpec := { name := "fnSpecials", fn := fun _ => fun
  | [] => { results := [.lit (.bool true)], args := [] }
  | _ => none }
def fnSpecialsRow : OpenClaim := { program := "ytmlkcgacneealaadoor", sum := "0402519a550f59ad4181b13b99b734d80298a42483ef58a08c2183fe1db26b19", func := "lib-guidepost/laws.FnSpecials", spec := "fnSpecials", named := ["net/netip.z4", "net/netip.z0", "net/netip.z6noz"], apart := false, laid := [("net/netip.z4", laid_net_netip_z4), ("net/netip.z6noz", laid_net_netip_z6noz), ("net/netip.z0", laid_net_netip_z0)] }
def FnSpecialsSaid : Prop := fnSpecialsRow.holds Tryd.pinned (OpenSpec.ofChange fnSpecialsSpec)

/-- ITS FALSE NEIGHBOUR: 'it returns false'. Refute it at one input. -/
def fnSpecialsWrong : ChangeSpec := { name := "fnSpecials", fn := fun _ => fun
  | [] => { results := [.lit (.bool false)], args := [] }
  | _ => none }
def FnSpecialsWrongFalsely : Prop := fnSpecialsRow.holds Tryd.pinned (OpenSpec.ofChange fnSpecialsWrong)

/-- 'laws.FnAsSliceOfZero': WHATEVER THE INPUT: true; the input reads as it did. -/
def fnAsSliceOfZeroSpec : ChangeSpec := { name := "fnAsSliceOfZero", fn := fun _ => fun
  | [d1, d2] => { results := [.lit (.bool true)], args := [d1, d2] }
  | _ => none }
def fnAsSliceOfZeroRow : OpenClaim := { program := "ytmlkcgacneealaadoor", sum := "0402519a550f59ad4181b13b99b734d80298a42483ef58a08c2183fe1db26b19", func := "lib-guidepost/laws.FnAsSliceOfZero", spec := "fnAsSliceOfZero", inPlace := ["unique.Make[net/netip.addrDetail]"], named := ["net/netip.z4", "net/netip.z6noz", "net/netip.z0"], apart := false, laid := [("net/netip.z4", laid_net_netip_z4), ("net/netip.z6noz", laid_net_netip_z6noz), ("net/netip.z0", laid_net_netip_z0)] }
def FnAsSliceOfZeroSaid : Prop := fnAsSliceOfZeroRow.holds Tryd.pinned (OpenSpec.ofChange fnAsSliceOfZeroSpec)

/-- ITS FALSE NEIGHBOUR: 'it returns false'. Refute it at one input. -/
def fnAsSliceOfZeroWrong : ChangeSpec := { name := "fnAsSliceOfZero", fn := fun _ => fun
  | [d1, d2] => { results := [.lit (.bool false)], args := [d1, d2] }
  | _ => none }
def FnAsSliceOfZeroWrongFalsely : Prop := fnAsSliceOfZeroRow.holds Tryd.pinned (OpenSpec.ofChange fnAsSliceOfZeroWrong)

/-- 'laws.FnPrev': WHATEVER THE INPUT: true; the input reads as it did. -/
def fnPrevSpec : ChangeSpec := { name := "fnPrev", fn := fun _ => fun
  | [d] => { results := [.lit (.bool true)], args := [d] }
  | _ => none }
def fnPrevRow : OpenClaim := { program := "ytmlkcgacneealaadoor", sum := "0402519a550f59ad4181b13b99b734d80298a42483ef58a08c2183fe1db26b19", func := "lib-guidepost/laws.FnPrev", spec := "fnPrev", inPlace := ["unique.Make[net/netip.addrDetail]", "math/bits.Sub64"], named := ["net/netip.z4", "net/netip.z6noz", "net/netip.z0"], apart := false, laid := [("net/netip.z4", laid_net_netip_z4), ("net/netip.z6noz", laid_net_netip_z6noz), ("net/netip.z0", laid_net_netip_z0)] }
def FnPrevSaid : Prop := fnPrevRow.holds Tryd.pinned (OpenSpec.ofChange fnPrevSpec)

/-- ITS FALSE NEIGHBOUR: 'it returns false'. Refute it at one input. -/
def fnPrevWrong : ChangeSpec := { name := "fnPrev", fn := fun _ => fun
  | [d] => { results := [.lit (.bool false)], args := [d] }
  | _ => none }
def FnPrevWrongFalsely : Prop := fnPrevRow.holds Tryd.pinned (OpenSpec.ofChange fnPrevWrong)

/-- 'laws.FnNext': WHATEVER THE INPUT: true; the input reads as it did. -/
def fnNextSpec : ChangeSpec := { name := "fnNext", fn := fun _ => fun
  | [d] => { results := [.lit (.bool true)], args := [d] }
  | _ => none }
def fnNextRow : OpenClaim := { program := "ytmlkcgacneealaadoor", sum := "0402519a550f59ad4181b13b99b734d80298a42483ef58a08c2183fe1db26b19", func := "lib-guidepost/laws.FnNext", spec := "fnNext", inPlace := ["unique.Make[net/netip.addrDetail]", "math/bits.Add64"], named := ["net/netip.z4", "net/netip.z6noz", "net/netip.z0"], apart := false, laid := [("net/netip.z4", laid_net_netip_z4), ("net/netip.z6noz", laid_net_netip_z6noz), ("net/netip.z0", laid_net_netip_z0)] }
def FnNextSaid : Prop := fnNextRow.holds Tryd.pinned (OpenSpec.ofChange fnNextSpec)

/-- ITS FALSE NEIGHBOUR: 'it returns false'. Refute it at one input. -/
def fnNextWrong : ChangeSpec := { name := "fnNext", fn := fun _ => fun
  | [d] => { results := [.lit (.bool false)], args := [d] }
  | _ => none }
def FnNextWrongFalsely : Prop := fnNextRow.holds Tryd.pinned (OpenSpec.ofChange fnNextWrong)

/-- 'laws.FnOrderIsOfBytes': WHATEVER THE INPUT: true; the input reads as it did. -/
def fnOrderIsOfBytesSpec : ChangeSpec := { name := "fnOrderIsOfBytes", fn := fun _ => fun
  | [d1, d2] => { results := [.lit (.bool true)], args := [d1, d2] }
  | _ => none }
def fnOrderIsOfBytesRow : OpenClaim := { program := "ytmlkcgacneealaadoor", sum := "0402519a550f59ad4181b13b99b734d80298a42483ef58a08c2183fe1db26b19", func := "lib-guidepost/laws.FnOrderIsOfBytes", spec := "fnOrderIsOfBytes", inPlace := ["unique.Make[net/netip.addrDetail]", "internal/bytealg.Compare"], named := ["net/netip.z4", "net/netip.z6noz", "net/netip.z0"], apart := false, laid := [("net/netip.z4", laid_net_netip_z4), ("net/netip.z6noz", laid_net_netip_z6noz), ("net/netip.z0", laid_net_netip_z0)] }
def FnOrderIsOfBytesSaid : Prop := fnOrderIsOfBytesRow.holds Tryd.pinned (OpenSpec.ofChange fnOrderIsOfBytesSpec)

/-- ITS FALSE NEIGHBOUR: 'it returns false'. Refute it at one input. -/
def fnOrderIsOfBytesWrong : ChangeSpec := { name := "fnOrderIsOfBytes", fn := fun _ => fun
  | [d1, d2] => { results := [.lit (.bool false)], args := [d1, d2] }
  | _ => none }
def FnOrderIsOfBytesWrongFalsely : Prop := fnOrderIsOfBytesRow.holds Tryd.pinned (OpenSpec.ofChange fnOrderIsOfBytesWrong)

/-- 'laws.FnMappedAndBack': WHATEVER THE INPUT: true; the input reads as it did. -/
def fnMappedAndBackSpec : ChangeSpec := { name := "fnMappedAndBack", fn := fun _ => fun
  | [d] => { results := [.lit (.bool true)], args := [d] }
  | _ => none }
def fnMappedAndBackRow : OpenClaim := { program := "ytmlkcgacneealaadoor", sum := "0402519a550f59ad4181b13b99b734d80298a42483ef58a08c2183fe1db26b19", func := "lib-guidepost/laws.FnMappedAndBack", spec := "fnMappedAndBack", inPlace := ["unique.Make[net/netip.addrDetail]"], unfollowed := true, recurses := true, named := ["net/netip.z4", "net/netip.z0", "net/netip.z6noz"], apart := false, laid := [("net/netip.z4", laid_net_netip_z4), ("net/netip.z6noz", laid_net_netip_z6noz), ("net/netip.z0", laid_net_netip_z0)] }
def FnMappedAndBackSaid : Prop := fnMappedAndBackRow.holds Tryd.pinned (OpenSpec.ofChange fnMappedAndBackSpec)

/-- ITS FALSE NEIGHBOUR: 'it returns false'. Refute it at one input. -/
def fnMappedAndBackWrong : ChangeSpec := { name := "fnMappedAndBack", fn := fun _ => fun
  | [d] => { results := [.lit (.bool false)], args := [d] }
  | _ => none }
def FnMappedAndBackWrongFalsely : Prop := fnMappedAndBackRow.holds Tryd.pinned (OpenSpec.ofChange fnMappedAndBackWrong)

/-- 'laws.FnNextAndPrev': WHATEVER THE INPUT: true; the input reads as it did. -/
def fnNextAndPrevSpec : ChangeSpec := { name := "fnNextAndPrev", fn := fun _ => fun
  | [d] => { results := [.lit (.bool true)], args := [d] }
  | _ => none }
def fnNextAndPrevRow : OpenClaim := { program := "ytmlkcgacneealaadoor", sum := "0402519a550f59ad4181b13b99b734d80298a42483ef58a08c2183fe1db26b19", func := "lib-guidepost/laws.FnNextAndPrev", spec := "fnNextAndPrev", inPlace := ["unique.Make[net/netip.addrDetail]", "math/bits.Add64", "math/bits.Sub64"], named := ["net/netip.z4", "net/netip.z6noz", "net/netip.z0"], apart := false, laid := [("net/netip.z4", laid_net_netip_z4), ("net/netip.z6noz", laid_net_netip_z6noz), ("net/netip.z0", laid_net_netip_z0)] }
def FnNextAndPrevSaid : Prop := fnNextAndPrevRow.holds Tryd.pinned (OpenSpec.ofChange fnNextAndPrevSpec)

/-- ITS FALSE NEIGHBOUR: 'it returns false'. Refute it at one input. -/
def fnNextAndPrevWrong : ChangeSpec := { name := "fnNextAndPrev", fn := fun _ => fun
  | [d] => { results := [.lit (.bool false)], args := [d] }
  | _ => none }
def FnNextAndPrevWrongFalsely : Prop := fnNextAndPrevRow.holds Tryd.pinned (OpenSpec.ofChange fnNextAndPrevWrong)

/-- 'laws.FnSteps': WHATEVER THE INPUT: true; the input reads as it did. -/
def fnStepsSpec : ChangeSpec := { name := "fnSteps", fn := fun _ => fun
  | [d1, d2] => { results := [.lit (.bool true)], args := [d1, d2] }
  | _ => none }
def fnStepsRow : OpenClaim := { program := "ytmlkcgacneealaadoor", sum := "0402519a550f59ad4181b13b99b734d80298a42483ef58a08c2183fe1db26b19", func := "lib-guidepost/laws.FnSteps", spec := "fnSteps", inPlace := ["unique.Make[net/netip.addrDetail]", "math/bits.Add64", "math/bits.Sub64"], unfollowed := true, recurses := true, named := ["net/netip.z4", "net/netip.z6noz", "net/netip.z0"], apart := false, laid := [("net/netip.z4", laid_net_netip_z4), ("net/netip.z6noz", laid_net_netip_z6noz), ("net/netip.z0", laid_net_netip_z0)] }
def FnStepsSaid : Prop := fnStepsRow.holds Tryd.pinned (OpenSpec.ofChange fnStepsSpec)

/-- ITS FALSE NEIGHBOUR: 'it returns false'. Refute it at one input. -/
def fnStepsWrong : ChangeSpec := { name := "fnSteps", fn := fun _ => fun
  | [d1, d2] => { results := [.lit (.bool false)], args := [d1, d2] }
  | _ => none }
def FnStepsWrongFalsely : Prop := fnStepsRow.holds Tryd.pinned (OpenSpec.ofChange fnStepsWrong)

/-- 'laws.FnKinds': WHATEVER THE INPUT: true; the input reads as it did. -/
def fnKindsSpec : ChangeSpec := { name := "fnKinds", fn := fun _ => fun
  | [d] => { results := [.lit (.bool true)], args := [d] }
  | _ => none }
def fnKindsRow : OpenClaim := { program := "ytmlkcgacneealaadoor", sum := "0402519a550f59ad4181b13b99b734d80298a42483ef58a08c2183fe1db26b19", func := "lib-guidepost/laws.FnKinds", spec := "fnKinds", inPlace := ["unique.Make[net/netip.addrDetail]"], named := ["net/netip.z4", "net/netip.z6noz", "net/netip.z0"], apart := false, laid := [("net/netip.z4", laid_net_netip_z4), ("net/netip.z6noz", laid_net_netip_z6noz), ("net/netip.z0", laid_net_netip_z0)] }
def FnKindsSaid : Prop := fnKindsRow.holds Tryd.pinned (OpenSpec.ofChange fnKindsSpec)

/-- ITS FALSE NEIGHBOUR: 'it returns false'. Refute it at one input. -/
def fnKindsWrong : ChangeSpec := { name := "fnKinds", fn := fun _ => fun
  | [d] => { results := [.lit (.bool false)], args := [d] }
  | _ => none }
def FnKindsWrongFalsely : Prop := fnKindsRow.holds Tryd.pinned (OpenSpec.ofChange fnKindsWrong)

/-- 'laws.FnNextIsLeast': WHATEVER THE INPUT: true; the input reads as it did. -/
def fnNextIsLeastSpec : ChangeSpec := { name := "fnNextIsLeast", fn := fun _ => fun
  | [d1, d2] => { results := [.lit (.bool true)], args := [d1, d2] }
  | _ => none }
def fnNextIsLeastRow : OpenClaim := { program := "ytmlkcgacneealaadoor", sum := "0402519a550f59ad4181b13b99b734d80298a42483ef58a08c2183fe1db26b19", func := "lib-guidepost/laws.FnNextIsLeast", spec := "fnNextIsLeast", inPlace := ["unique.Make[net/netip.addrDetail]", "math/bits.Add64", "math/bits.Sub64"], named := ["net/netip.z4", "net/netip.z6noz", "net/netip.z0"], apart := false, laid := [("net/netip.z4", laid_net_netip_z4), ("net/netip.z6noz", laid_net_netip_z6noz), ("net/netip.z0", laid_net_netip_z0)] }
def FnNextIsLeastSaid : Prop := fnNextIsLeastRow.holds Tryd.pinned (OpenSpec.ofChange fnNextIsLeastSpec)

/-- ITS FALSE NEIGHBOUR: 'it returns false'. Refute it at one input. -/
def fnNextIsLeastWrong : ChangeSpec := { name := "fnNextIsLeast", fn := fun _ => fun
  | [d1, d2] => { results := [.lit (.bool false)], args := [d1, d2] }
  | _ => none }
def FnNextIsLeastWrongFalsely : Prop := fnNextIsLeastRow.holds Tryd.pinned (OpenSpec.ofChange fnNextIsLeastWrong)

/-- 'laws.FnLengths': WHATEVER THE INPUT: true; the input reads as it did. -/
def fnLengthsSpec : ChangeSpec := { name := "fnLengths", fn := fun _ => fun
  | [d] => { results := [.lit (.bool true)], args := [d] }
  | _ => none }
def fnLengthsRow : OpenClaim := { program := "ytmlkcgacneealaadoor", sum := "0402519a550f59ad4181b13b99b734d80298a42483ef58a08c2183fe1db26b19", func := "lib-guidepost/laws.FnLengths", spec := "fnLengths", inPlace := ["unique.Make[net/netip.addrDetail]"], named := ["net/netip.z4", "net/netip.z6noz", "net/netip.z0"], apart := false, laid := [("net/netip.z4", laid_net_netip_z4), ("net/netip.z6noz", laid_net_netip_z6noz), ("net/netip.z0", laid_net_netip_z0)] }
def FnLengthsSaid : Prop := fnLengthsRow.holds Tryd.pinned (OpenSpec.ofChange fnLengthsSpec)

/-- ITS FALSE NEIGHBOUR: 'it returns false'. Refute it at one input. -/
def fnLengthsWrong : ChangeSpec := { name := "fnLengths", fn := fun _ => fun
  | [d] => { results := [.lit (.bool false)], args := [d] }
  | _ => none }
def FnLengthsWrongFalsely : Prop := fnLengthsRow.holds Tryd.pinned (OpenSpec.ofChange fnLengthsWrong)

/-- 'laws.FnSmallLetters': WHATEVER THE INPUT: true; the input reads as it did. -/
def fnSmallLettersSpec : ChangeSpec := { name := "fnSmallLetters", fn := fun _ => fun
  | [d] => { results := [.lit (.bool true)], args := [d] }
  | _ => none }
def fnSmallLettersRow : OpenClaim := { program := "ytmlkcgacneealaadoor", sum := "0402519a550f59ad4181b13b99b734d80298a42483ef58a08c2183fe1db26b19", func := "lib-guidepost/laws.FnSmallLetters", spec := "fnSmallLetters", inPlace := ["unique.Make[net/netip.addrDetail]"], named := ["net/netip.z4", "net/netip.z6noz", "net/netip.z0"], apart := false, laid := [("net/netip.z4", laid_net_netip_z4), ("net/netip.z6noz", laid_net_netip_z6noz), ("net/netip.z0", laid_net_netip_z0)] }
def FnSmallLettersSaid : Prop := fnSmallLettersRow.holds Tryd.pinned (OpenSpec.ofChange fnSmallLettersSpec)

/-- ITS FALSE NEIGHBOUR: 'it returns false'. Refute it at one input. -/
def fnSmallLettersWrong : ChangeSpec := { name := "fnSmallLetters", fn := fun _ => fun
  | [d] => { results := [.lit (.bool false)], args := [d] }
  | _ => none }
def FnSmallLettersWrongFalsely : Prop := fnSmallLettersRow.holds Tryd.pinned (OpenSpec.ofChange fnSmallLettersWrong)

/-- 'laws.FnKindsApart': WHATEVER THE INPUT: true; the input reads as it did. -/
def fnKindsApartSpec : ChangeSpec := { name := "fnKindsApart", fn := fun _ => fun
  | [d] => { results := [.lit (.bool true)], args := [d] }
  | _ => none }
def fnKindsApartRow : OpenClaim := { program := "ytmlkcgacneealaadoor", sum := "0402519a550f59ad4181b13b99b734d80298a42483ef58a08c2183fe1db26b19", func := "lib-guidepost/laws.FnKindsApart", spec := "fnKindsApart", inPlace := ["unique.Make[net/netip.addrDetail]"], named := ["net/netip.z4", "net/netip.z6noz", "net/netip.z0"], apart := false, laid := [("net/netip.z4", laid_net_netip_z4), ("net/netip.z6noz", laid_net_netip_z6noz), ("net/netip.z0", laid_net_netip_z0)] }
def FnKindsApartSaid : Prop := fnKindsApartRow.holds Tryd.pinned (OpenSpec.ofChange fnKindsApartSpec)

/-- ITS FALSE NEIGHBOUR: 'it returns false'. Refute it at one input. -/
def fnKindsApartWrong : ChangeSpec := { name := "fnKindsApart", fn := fun _ => fun
  | [d] => { results := [.lit (.bool false)], args := [d] }
  | _ => none }
def FnKindsApartWrongFalsely : Prop := fnKindsApartRow.holds Tryd.pinned (OpenSpec.ofChange fnKindsApartWrong)

/-- 'laws.FnColonsForZeros': WHATEVER THE INPUT: true; the input reads as it did. -/
def fnColonsForZerosSpec : ChangeSpec := { name := "fnColonsForZeros", fn := fun _ => fun
  | [d1, d2, d3] => { results := [.lit (.bool true)], args := [d1, d2, d3] }
  | _ => none }
def fnColonsForZerosRow : OpenClaim := { program := "ytmlkcgacneealaadoor", sum := "0402519a550f59ad4181b13b99b734d80298a42483ef58a08c2183fe1db26b19", func := "lib-guidepost/laws.FnColonsForZeros", spec := "fnColonsForZeros", inPlace := ["internal/bytealg.IndexByteString", "unique.Make[net/netip.addrDetail]"], recurses := true, named := ["net/netip.z4", "net/netip.z6noz", "net/netip.z0"], apart := false, laid := [("net/netip.z4", laid_net_netip_z4), ("net/netip.z6noz", laid_net_netip_z6noz), ("net/netip.z0", laid_net_netip_z0)] }
def FnColonsForZerosSaid : Prop := fnColonsForZerosRow.holds Tryd.pinned (OpenSpec.ofChange fnColonsForZerosSpec)

/-- ITS FALSE NEIGHBOUR: 'it returns false'. Refute it at one input. -/
def fnColonsForZerosWrong : ChangeSpec := { name := "fnColonsForZeros", fn := fun _ => fun
  | [d1, d2, d3] => { results := [.lit (.bool false)], args := [d1, d2, d3] }
  | _ => none }
def FnColonsForZerosWrongFalsely : Prop := fnColonsForZerosRow.holds Tryd.pinned (OpenSpec.ofChange fnColonsForZerosWrong)

/-- 'laws.FnColonsOnce': WHATEVER THE INPUT: true; the input reads as it did. -/
def fnColonsOnceSpec : ChangeSpec := { name := "fnColonsOnce", fn := fun _ => fun
  | [d1, d2] => { results := [.lit (.bool true)], args := [d1, d2] }
  | _ => none }
def fnColonsOnceRow : OpenClaim := { program := "ytmlkcgacneealaadoor", sum := "0402519a550f59ad4181b13b99b734d80298a42483ef58a08c2183fe1db26b19", func := "lib-guidepost/laws.FnColonsOnce", spec := "fnColonsOnce", inPlace := ["internal/bytealg.IndexByteString", "unique.Make[net/netip.addrDetail]"], recurses := true, named := ["net/netip.z4", "net/netip.z6noz", "net/netip.z0"], apart := false, laid := [("net/netip.z4", laid_net_netip_z4), ("net/netip.z6noz", laid_net_netip_z6noz), ("net/netip.z0", laid_net_netip_z0)] }
def FnColonsOnceSaid : Prop := fnColonsOnceRow.holds Tryd.pinned (OpenSpec.ofChange fnColonsOnceSpec)

/-- ITS FALSE NEIGHBOUR: 'it returns false'. Refute it at one input. -/
def fnColonsOnceWrong : ChangeSpec := { name := "fnColonsOnce", fn := fun _ => fun
  | [d1, d2] => { results := [.lit (.bool false)], args := [d1, d2] }
  | _ => none }
def FnColonsOnceWrongFalsely : Prop := fnColonsOnceRow.holds Tryd.pinned (OpenSpec.ofChange fnColonsOnceWrong)

/-- 'laws.FnLetters': WHATEVER THE INPUT: true; the input reads as it did. -/
def fnLettersSpec : ChangeSpec := { name := "fnLetters", fn := fun _ => fun
  | [d1, d2] => { results := [.lit (.bool true)], args := [d1, d2] }
  | _ => none }
def fnLettersRow : OpenClaim := { program := "ytmlkcgacneealaadoor", sum := "0402519a550f59ad4181b13b99b734d80298a42483ef58a08c2183fe1db26b19", func := "lib-guidepost/laws.FnLetters", spec := "fnLetters", inPlace := ["internal/bytealg.IndexByteString", "unique.Make[net/netip.addrDetail]"], recurses := true, named := ["net/netip.z4", "net/netip.z6noz", "net/netip.z0"], apart := false, laid := [("net/netip.z4", laid_net_netip_z4), ("net/netip.z6noz", laid_net_netip_z6noz), ("net/netip.z0", laid_net_netip_z0)] }
def FnLettersSaid : Prop := fnLettersRow.holds Tryd.pinned (OpenSpec.ofChange fnLettersSpec)

/-- ITS FALSE NEIGHBOUR: 'it returns false'. Refute it at one input. -/
def fnLettersWrong : ChangeSpec := { name := "fnLetters", fn := fun _ => fun
  | [d1, d2] => { results := [.lit (.bool false)], args := [d1, d2] }
  | _ => none }
def FnLettersWrongFalsely : Prop := fnLettersRow.holds Tryd.pinned (OpenSpec.ofChange fnLettersWrong)

/-- 'laws.FnKindsOfUnmapped': WHATEVER THE INPUT: true; the input reads as it did. -/
def fnKindsOfUnmappedSpec : ChangeSpec := { name := "fnKindsOfUnmapped", fn := fun _ => fun
  | [d] => { results := [.lit (.bool true)], args := [d] }
  | _ => none }
def fnKindsOfUnmappedRow : OpenClaim := { program := "ytmlkcgacneealaadoor", sum := "0402519a550f59ad4181b13b99b734d80298a42483ef58a08c2183fe1db26b19", func := "lib-guidepost/laws.FnKindsOfUnmapped", spec := "fnKindsOfUnmapped", inPlace := ["unique.Make[net/netip.addrDetail]"], named := ["net/netip.z4", "net/netip.z0", "net/netip.z6noz"], apart := false, laid := [("net/netip.z4", laid_net_netip_z4), ("net/netip.z6noz", laid_net_netip_z6noz), ("net/netip.z0", laid_net_netip_z0)] }
def FnKindsOfUnmappedSaid : Prop := fnKindsOfUnmappedRow.holds Tryd.pinned (OpenSpec.ofChange fnKindsOfUnmappedSpec)

/-- ITS FALSE NEIGHBOUR: 'it returns false'. Refute it at one input. -/
def fnKindsOfUnmappedWrong : ChangeSpec := { name := "fnKindsOfUnmapped", fn := fun _ => fun
  | [d] => { results := [.lit (.bool false)], args := [d] }
  | _ => none }
def FnKindsOfUnmappedWrongFalsely : Prop := fnKindsOfUnmappedRow.holds Tryd.pinned (OpenSpec.ofChange fnKindsOfUnmappedWrong)

/-- 'laws.FnTextRoundTripBare': WHATEVER THE INPUT: true; the input reads as it did. -/
def fnTextRoundTripBareSpec : ChangeSpec := { name := "fnTextRoundTripBare", fn := fun _ => fun
  | [d] => { results := [.lit (.bool true)], args := [d] }
  | _ => none }
def fnTextRoundTripBareRow : OpenClaim := { program := "ytmlkcgacneealaadoor", sum := "0402519a550f59ad4181b13b99b734d80298a42483ef58a08c2183fe1db26b19", func := "lib-guidepost/laws.FnTextRoundTripBare", spec := "fnTextRoundTripBare", inPlace := ["unique.Make[net/netip.addrDetail]", "internal/bytealg.IndexByteString"], named := ["net/netip.z4", "net/netip.z6noz", "net/netip.z0"], apart := false, laid := [("net/netip.z4", laid_net_netip_z4), ("net/netip.z6noz", laid_net_netip_z6noz), ("net/netip.z0", laid_net_netip_z0)] }
def FnTextRoundTripBareSaid : Prop := fnTextRoundTripBareRow.holds Tryd.pinned (OpenSpec.ofChange fnTextRoundTripBareSpec)

/-- ITS FALSE NEIGHBOUR: 'it returns false'. Refute it at one input. -/
def fnTextRoundTripBareWrong : ChangeSpec := { name := "fnTextRoundTripBare", fn := fun _ => fun
  | [d] => { results := [.lit (.bool false)], args := [d] }
  | _ => none }
def FnTextRoundTripBareWrongFalsely : Prop := fnTextRoundTripBareRow.holds Tryd.pinned (OpenSpec.ofChange fnTextRoundTripBareWrong)

/-- 'laws.FnDotted': WHATEVER THE INPUT: true; the input reads as it did. -/
def fnDottedSpec : ChangeSpec := { name := "fnDotted", fn := fun _ => fun
  | [d] => { results := [.lit (.bool true)], args := [d] }
  | _ => none }
def fnDottedRow : OpenClaim := { program := "ytmlkcgacneealaadoor", sum := "0402519a550f59ad4181b13b99b734d80298a42483ef58a08c2183fe1db26b19", func := "lib-guidepost/laws.FnDotted", spec := "fnDotted", inPlace := ["unique.Make[net/netip.addrDetail]", "internal/bytealg.IndexByteString"], recurses := true, named := ["net/netip.z4", "net/netip.z0", "net/netip.z6noz"], apart := false, laid := [("net/netip.z4", laid_net_netip_z4), ("net/netip.z6noz", laid_net_netip_z6noz), ("net/netip.z0", laid_net_netip_z0)] }
def FnDottedSaid : Prop := fnDottedRow.holds Tryd.pinned (OpenSpec.ofChange fnDottedSpec)

/-- ITS FALSE NEIGHBOUR: 'it returns false'. Refute it at one input. -/
def fnDottedWrong : ChangeSpec := { name := "fnDotted", fn := fun _ => fun
  | [d] => { results := [.lit (.bool false)], args := [d] }
  | _ => none }
def FnDottedWrongFalsely : Prop := fnDottedRow.holds Tryd.pinned (OpenSpec.ofChange fnDottedWrong)

/- THE SECOND FORM. 'bulk': how many values and letters a reading holds, each counted each time it is reached (what is shared counts as often as it is met; a slice's spare places count too). A statement '..UptoSaid' is the law's where the arguments, and the package variables that the reading takes, are together of bulk at most 1048576: NARROWER than '..Said'. Prove '..Said' where nothing that the law and all that it calls make is longer than what came in: it says more and counts as full. Else prove '..UptoSaid'. A law counts once. -/
mutual
def uptoBulk {H : Type} : DataW H → Nat
  | .lit (.string bytes) => bytes.length + 1
  | .lit _ => 1
  | .nil => 1
  | .ptr d => uptoBulk d + 1
  | .slice elems spare => uptoBulkAll elems + uptoBulkAll spare + 1
  | .agg parts => uptoBulkAll parts + 1
  | .iface _ d => uptoBulk d + 1
  | .map entries => uptoBulkEntries entries + 1
  | .held _ => 1
def uptoBulkAll {H : Type} : List (DataW H) → Nat
  | [] => 0
  | d :: r => uptoBulk d + uptoBulkAll r
def uptoBulkEntries {H : Type} : List (Lit × DataW H) → Nat
  | [] => 0
  | x :: r => uptoBulkEntry x + uptoBulkEntries r
def uptoBulkEntry {H : Type} : Lit × DataW H → Nat
  | (.string bytes, d) => bytes.length + uptoBulk d + 1
  | (_, d) => uptoBulk d + 1
 end
def uptoSmall : (H : Type) → List (DataW H) → Bool := fun _ ds => decide (uptoBulkAll ds ≤ 1048576)
def OpenSpec.upto (s : _root_.Go.ChangeSpec) : _root_.Go.OpenSpec := { _root_.Go.OpenSpec.ofChange s with cond := some uptoSmall }

/-- 'laws.FnAddrFrom4', WHERE WHAT IT READS IS OF BULK AT MOST 1048576: true; the input reads as it did. -/
def fnAddrFrom4UptoRow : OpenClaim := { program := "ytmlkcgacneealaadoor", sum := "0402519a550f59ad4181b13b99b734d80298a42483ef58a08c2183fe1db26b19", func := "lib-guidepost/laws.FnAddrFrom4", spec := "fnAddrFrom4", named := ["net/netip.z4", "net/netip.z0"], apart := false, laid := [("net/netip.z4", laid_net_netip_z4), ("net/netip.z0", laid_net_netip_z0)], narrowed := true }
def FnAddrFrom4UptoSaid : Prop := fnAddrFrom4UptoRow.holds Tryd.pinned (OpenSpec.upto fnAddrFrom4Spec)

/-- 'laws.FnAddrFrom16', WHERE WHAT IT READS IS OF BULK AT MOST 1048576: true; the input reads as it did. -/
def fnAddrFrom16UptoRow : OpenClaim := { program := "ytmlkcgacneealaadoor", sum := "0402519a550f59ad4181b13b99b734d80298a42483ef58a08c2183fe1db26b19", func := "lib-guidepost/laws.FnAddrFrom16", spec := "fnAddrFrom16", named := ["net/netip.z6noz", "net/netip.z0", "net/netip.z4"], apart := false, laid := [("net/netip.z4", laid_net_netip_z4), ("net/netip.z6noz", laid_net_netip_z6noz), ("net/netip.z0", laid_net_netip_z0)], narrowed := true }
def FnAddrFrom16UptoSaid : Prop := fnAddrFrom16UptoRow.holds Tryd.pinned (OpenSpec.upto fnAddrFrom16Spec)

/-- 'laws.FnAddrFromSlice', WHERE WHAT IT READS IS OF BULK AT MOST 1048576: true; the input reads as it did. -/
def fnAddrFromSliceUptoRow : OpenClaim := { program := "ytmlkcgacneealaadoor", sum := "0402519a550f59ad4181b13b99b734d80298a42483ef58a08c2183fe1db26b19", func := "lib-guidepost/laws.FnAddrFromSlice", spec := "fnAddrFromSlice", named := ["net/netip.z4", "net/netip.z6noz", "net/netip.z0"], apart := false, laid := [("net/netip.z4", laid_net_netip_z4), ("net/netip.z6noz", laid_net_netip_z6noz), ("net/netip.z0", laid_net_netip_z0)], narrowed := true }
def FnAddrFromSliceUptoSaid : Prop := fnAddrFromSliceUptoRow.holds Tryd.pinned (OpenSpec.upto fnAddrFromSliceSpec)

/-- 'laws.FnSpecials', WHERE WHAT IT READS IS OF BULK AT MOST 1048576: true; the input reads as it did. -/
def fnSpecialsUptoRow : OpenClaim := { program := "ytmlkcgacneealaadoor", sum := "0402519a550f59ad4181b13b99b734d80298a42483ef58a08c2183fe1db26b19", func := "lib-guidepost/laws.FnSpecials", spec := "fnSpecials", named := ["net/netip.z4", "net/netip.z0", "net/netip.z6noz"], apart := false, laid := [("net/netip.z4", laid_net_netip_z4), ("net/netip.z6noz", laid_net_netip_z6noz), ("net/netip.z0", laid_net_netip_z0)], narrowed := true }
def FnSpecialsUptoSaid : Prop := fnSpecialsUptoRow.holds Tryd.pinned (OpenSpec.upto fnSpecialsSpec)

/-- 'laws.FnAsSliceOfZero', WHERE WHAT IT READS IS OF BULK AT MOST 1048576: true; the input reads as it did. -/
def fnAsSliceOfZeroUptoRow : OpenClaim := { program := "ytmlkcgacneealaadoor", sum := "0402519a550f59ad4181b13b99b734d80298a42483ef58a08c2183fe1db26b19", func := "lib-guidepost/laws.FnAsSliceOfZero", spec := "fnAsSliceOfZero", inPlace := ["unique.Make[net/netip.addrDetail]"], named := ["net/netip.z4", "net/netip.z6noz", "net/netip.z0"], apart := false, laid := [("net/netip.z4", laid_net_netip_z4), ("net/netip.z6noz", laid_net_netip_z6noz), ("net/netip.z0", laid_net_netip_z0)], narrowed := true }
def FnAsSliceOfZeroUptoSaid : Prop := fnAsSliceOfZeroUptoRow.holds Tryd.pinned (OpenSpec.upto fnAsSliceOfZeroSpec)

/-- 'laws.FnPrev', WHERE WHAT IT READS IS OF BULK AT MOST 1048576: true; the input reads as it did. -/
def fnPrevUptoRow : OpenClaim := { program := "ytmlkcgacneealaadoor", sum := "0402519a550f59ad4181b13b99b734d80298a42483ef58a08c2183fe1db26b19", func := "lib-guidepost/laws.FnPrev", spec := "fnPrev", inPlace := ["unique.Make[net/netip.addrDetail]", "math/bits.Sub64"], named := ["net/netip.z4", "net/netip.z6noz", "net/netip.z0"], apart := false, laid := [("net/netip.z4", laid_net_netip_z4), ("net/netip.z6noz", laid_net_netip_z6noz), ("net/netip.z0", laid_net_netip_z0)], narrowed := true }
def FnPrevUptoSaid : Prop := fnPrevUptoRow.holds Tryd.pinned (OpenSpec.upto fnPrevSpec)

/-- 'laws.FnNext', WHERE WHAT IT READS IS OF BULK AT MOST 1048576: true; the input reads as it did. -/
def fnNextUptoRow : OpenClaim := { program := "ytmlkcgacneealaadoor", sum := "0402519a550f59ad4181b13b99b734d80298a42483ef58a08c2183fe1db26b19", func := "lib-guidepost/laws.FnNext", spec := "fnNext", inPlace := ["unique.Make[net/netip.addrDetail]", "math/bits.Add64"], named := ["net/netip.z4", "net/netip.z6noz", "net/netip.z0"], apart := false, laid := [("net/netip.z4", laid_net_netip_z4), ("net/netip.z6noz", laid_net_netip_z6noz), ("net/netip.z0", laid_net_netip_z0)], narrowed := true }
def FnNextUptoSaid : Prop := fnNextUptoRow.holds Tryd.pinned (OpenSpec.upto fnNextSpec)

/-- 'laws.FnOrderIsOfBytes', WHERE WHAT IT READS IS OF BULK AT MOST 1048576: true; the input reads as it did. -/
def fnOrderIsOfBytesUptoRow : OpenClaim := { program := "ytmlkcgacneealaadoor", sum := "0402519a550f59ad4181b13b99b734d80298a42483ef58a08c2183fe1db26b19", func := "lib-guidepost/laws.FnOrderIsOfBytes", spec := "fnOrderIsOfBytes", inPlace := ["unique.Make[net/netip.addrDetail]", "internal/bytealg.Compare"], named := ["net/netip.z4", "net/netip.z6noz", "net/netip.z0"], apart := false, laid := [("net/netip.z4", laid_net_netip_z4), ("net/netip.z6noz", laid_net_netip_z6noz), ("net/netip.z0", laid_net_netip_z0)], narrowed := true }
def FnOrderIsOfBytesUptoSaid : Prop := fnOrderIsOfBytesUptoRow.holds Tryd.pinned (OpenSpec.upto fnOrderIsOfBytesSpec)

/-- 'laws.FnMappedAndBack', WHERE WHAT IT READS IS OF BULK AT MOST 1048576: true; the input reads as it did. -/
def fnMappedAndBackUptoRow : OpenClaim := { program := "ytmlkcgacneealaadoor", sum := "0402519a550f59ad4181b13b99b734d80298a42483ef58a08c2183fe1db26b19", func := "lib-guidepost/laws.FnMappedAndBack", spec := "fnMappedAndBack", inPlace := ["unique.Make[net/netip.addrDetail]"], unfollowed := true, recurses := true, named := ["net/netip.z4", "net/netip.z0", "net/netip.z6noz"], apart := false, laid := [("net/netip.z4", laid_net_netip_z4), ("net/netip.z6noz", laid_net_netip_z6noz), ("net/netip.z0", laid_net_netip_z0)], narrowed := true }
def FnMappedAndBackUptoSaid : Prop := fnMappedAndBackUptoRow.holds Tryd.pinned (OpenSpec.upto fnMappedAndBackSpec)

/-- 'laws.FnNextAndPrev', WHERE WHAT IT READS IS OF BULK AT MOST 1048576: true; the input reads as it did. -/
def fnNextAndPrevUptoRow : OpenClaim := { program := "ytmlkcgacneealaadoor", sum := "0402519a550f59ad4181b13b99b734d80298a42483ef58a08c2183fe1db26b19", func := "lib-guidepost/laws.FnNextAndPrev", spec := "fnNextAndPrev", inPlace := ["unique.Make[net/netip.addrDetail]", "math/bits.Add64", "math/bits.Sub64"], named := ["net/netip.z4", "net/netip.z6noz", "net/netip.z0"], apart := false, laid := [("net/netip.z4", laid_net_netip_z4), ("net/netip.z6noz", laid_net_netip_z6noz), ("net/netip.z0", laid_net_netip_z0)], narrowed := true }
def FnNextAndPrevUptoSaid : Prop := fnNextAndPrevUptoRow.holds Tryd.pinned (OpenSpec.upto fnNextAndPrevSpec)

/-- 'laws.FnSteps', WHERE WHAT IT READS IS OF BULK AT MOST 1048576: true; the input reads as it did. -/
def fnStepsUptoRow : OpenClaim := { program := "ytmlkcgacneealaadoor", sum := "0402519a550f59ad4181b13b99b734d80298a42483ef58a08c2183fe1db26b19", func := "lib-guidepost/laws.FnSteps", spec := "fnSteps", inPlace := ["unique.Make[net/netip.addrDetail]", "math/bits.Add64", "math/bits.Sub64"], unfollowed := true, recurses := true, named := ["net/netip.z4", "net/netip.z6noz", "net/netip.z0"], apart := false, laid := [("net/netip.z4", laid_net_netip_z4), ("net/netip.z6noz", laid_net_netip_z6noz), ("net/netip.z0", laid_net_netip_z0)], narrowed := true }
def FnStepsUptoSaid : Prop := fnStepsUptoRow.holds Tryd.pinned (OpenSpec.upto fnStepsSpec)

/-- 'laws.FnKinds', WHERE WHAT IT READS IS OF BULK AT MOST 1048576: true; the input reads as it did. -/
def fnKindsUptoRow : OpenClaim := { program := "ytmlkcgacneealaadoor", sum := "0402519a550f59ad4181b13b99b734d80298a42483ef58a08c2183fe1db26b19", func := "lib-guidepost/laws.FnKinds", spec := "fnKinds", inPlace := ["unique.Make[net/netip.addrDetail]"], named := ["net/netip.z4", "net/netip.z6noz", "net/netip.z0"], apart := false, laid := [("net/netip.z4", laid_net_netip_z4), ("net/netip.z6noz", laid_net_netip_z6noz), ("net/netip.z0", laid_net_netip_z0)], narrowed := true }
def FnKindsUptoSaid : Prop := fnKindsUptoRow.holds Tryd.pinned (OpenSpec.upto fnKindsSpec)

/-- 'laws.FnNextIsLeast', WHERE WHAT IT READS IS OF BULK AT MOST 1048576: true; the input reads as it did. -/
def fnNextIsLeastUptoRow : OpenClaim := { program := "ytmlkcgacneealaadoor", sum := "0402519a550f59ad4181b13b99b734d80298a42483ef58a08c2183fe1db26b19", func := "lib-guidepost/laws.FnNextIsLeast", spec := "fnNextIsLeast", inPlace := ["unique.Make[net/netip.addrDetail]", "math/bits.Add64", "math/bits.Sub64"], named := ["net/netip.z4", "net/netip.z6noz", "net/netip.z0"], apart := false, laid := [("net/netip.z4", laid_net_netip_z4), ("net/netip.z6noz", laid_net_netip_z6noz), ("net/netip.z0", laid_net_netip_z0)], narrowed := true }
def FnNextIsLeastUptoSaid : Prop := fnNextIsLeastUptoRow.holds Tryd.pinned (OpenSpec.upto fnNextIsLeastSpec)

/-- 'laws.FnLengths', WHERE WHAT IT READS IS OF BULK AT MOST 1048576: true; the input reads as it did. -/
def fnLengthsUptoRow : OpenClaim := { program := "ytmlkcgacneealaadoor", sum := "0402519a550f59ad4181b13b99b734d80298a42483ef58a08c2183fe1db26b19", func := "lib-guidepost/laws.FnLengths", spec := "fnLengths", inPlace := ["unique.Make[net/netip.addrDetail]"], named := ["net/netip.z4", "net/netip.z6noz", "net/netip.z0"], apart := false, laid := [("net/netip.z4", laid_net_netip_z4), ("net/netip.z6noz", laid_net_netip_z6noz), ("net/netip.z0", laid_net_netip_z0)], narrowed := true }
def FnLengthsUptoSaid : Prop := fnLengthsUptoRow.holds Tryd.pinned (OpenSpec.upto fnLengthsSpec)

/-- 'laws.FnSmallLetters', WHERE WHAT IT READS IS OF BULK AT MOST 1048576: true; the input reads as it did. -/
def fnSmallLettersUptoRow : OpenClaim := { program := "ytmlkcgacneealaadoor", sum := "0402519a550f59ad4181b13b99b734d80298a42483ef58a08c2183fe1db26b19", func := "lib-guidepost/laws.FnSmallLetters", spec := "fnSmallLetters", inPlace := ["unique.Make[net/netip.addrDetail]"], named := ["net/netip.z4", "net/netip.z6noz", "net/netip.z0"], apart := false, laid := [("net/netip.z4", laid_net_netip_z4), ("net/netip.z6noz", laid_net_netip_z6noz), ("net/netip.z0", laid_net_netip_z0)], narrowed := true }
def FnSmallLettersUptoSaid : Prop := fnSmallLettersUptoRow.holds Tryd.pinned (OpenSpec.upto fnSmallLettersSpec)

/-- 'laws.FnKindsApart', WHERE WHAT IT READS IS OF BULK AT MOST 1048576: true; the input reads as it did. -/
def fnKindsApartUptoRow : OpenClaim := { program := "ytmlkcgacneealaadoor", sum := "0402519a550f59ad4181b13b99b734d80298a42483ef58a08c2183fe1db26b19", func := "lib-guidepost/laws.FnKindsApart", spec := "fnKindsApart", inPlace := ["unique.Make[net/netip.addrDetail]"], named := ["net/netip.z4", "net/netip.z6noz", "net/netip.z0"], apart := false, laid := [("net/netip.z4", laid_net_netip_z4), ("net/netip.z6noz", laid_net_netip_z6noz), ("net/netip.z0", laid_net_netip_z0)], narrowed := true }
def FnKindsApartUptoSaid : Prop := fnKindsApartUptoRow.holds Tryd.pinned (OpenSpec.upto fnKindsApartSpec)

/-- 'laws.FnColonsForZeros', WHERE WHAT IT READS IS OF BULK AT MOST 1048576: true; the input reads as it did. -/
def fnColonsForZerosUptoRow : OpenClaim := { program := "ytmlkcgacneealaadoor", sum := "0402519a550f59ad4181b13b99b734d80298a42483ef58a08c2183fe1db26b19", func := "lib-guidepost/laws.FnColonsForZeros", spec := "fnColonsForZeros", inPlace := ["internal/bytealg.IndexByteString", "unique.Make[net/netip.addrDetail]"], recurses := true, named := ["net/netip.z4", "net/netip.z6noz", "net/netip.z0"], apart := false, laid := [("net/netip.z4", laid_net_netip_z4), ("net/netip.z6noz", laid_net_netip_z6noz), ("net/netip.z0", laid_net_netip_z0)], narrowed := true }
def FnColonsForZerosUptoSaid : Prop := fnColonsForZerosUptoRow.holds Tryd.pinned (OpenSpec.upto fnColonsForZerosSpec)

/-- 'laws.FnColonsOnce', WHERE WHAT IT READS IS OF BULK AT MOST 1048576: true; the input reads as it did. -/
def fnColonsOnceUptoRow : OpenClaim := { program := "ytmlkcgacneealaadoor", sum := "0402519a550f59ad4181b13b99b734d80298a42483ef58a08c2183fe1db26b19", func := "lib-guidepost/laws.FnColonsOnce", spec := "fnColonsOnce", inPlace := ["internal/bytealg.IndexByteString", "unique.Make[net/netip.addrDetail]"], recurses := true, named := ["net/netip.z4", "net/netip.z6noz", "net/netip.z0"], apart := false, laid := [("net/netip.z4", laid_net_netip_z4), ("net/netip.z6noz", laid_net_netip_z6noz), ("net/netip.z0", laid_net_netip_z0)], narrowed := true }
def FnColonsOnceUptoSaid : Prop := fnColonsOnceUptoRow.holds Tryd.pinned (OpenSpec.upto fnColonsOnceSpec)

/-- 'laws.FnLetters', WHERE WHAT IT READS IS OF BULK AT MOST 1048576: true; the input reads as it did. -/
def fnLettersUptoRow : OpenClaim := { program := "ytmlkcgacneealaadoor", sum := "0402519a550f59ad4181b13b99b734d80298a42483ef58a08c2183fe1db26b19", func := "lib-guidepost/laws.FnLetters", spec := "fnLetters", inPlace := ["internal/bytealg.IndexByteString", "unique.Make[net/netip.addrDetail]"], recurses := true, named := ["net/netip.z4", "net/netip.z6noz", "net/netip.z0"], apart := false, laid := [("net/netip.z4", laid_net_netip_z4), ("net/netip.z6noz", laid_net_netip_z6noz), ("net/netip.z0", laid_net_netip_z0)], narrowed := true }
def FnLettersUptoSaid : Prop := fnLettersUptoRow.holds Tryd.pinned (OpenSpec.upto fnLettersSpec)

/-- 'laws.FnKindsOfUnmapped', WHERE WHAT IT READS IS OF BULK AT MOST 1048576: true; the input reads as it did. -/
def fnKindsOfUnmappedUptoRow : OpenClaim := { program := "ytmlkcgacneealaadoor", sum := "0402519a550f59ad4181b13b99b734d80298a42483ef58a08c2183fe1db26b19", func := "lib-guidepost/laws.FnKindsOfUnmapped", spec := "fnKindsOfUnmapped", inPlace := ["unique.Make[net/netip.addrDetail]"], named := ["net/netip.z4", "net/netip.z0", "net/netip.z6noz"], apart := false, laid := [("net/netip.z4", laid_net_netip_z4), ("net/netip.z6noz", laid_net_netip_z6noz), ("net/netip.z0", laid_net_netip_z0)], narrowed := true }
def FnKindsOfUnmappedUptoSaid : Prop := fnKindsOfUnmappedUptoRow.holds Tryd.pinned (OpenSpec.upto fnKindsOfUnmappedSpec)

/-- 'laws.FnTextRoundTripBare', WHERE WHAT IT READS IS OF BULK AT MOST 1048576: true; the input reads as it did. -/
def fnTextRoundTripBareUptoRow : OpenClaim := { program := "ytmlkcgacneealaadoor", sum := "0402519a550f59ad4181b13b99b734d80298a42483ef58a08c2183fe1db26b19", func := "lib-guidepost/laws.FnTextRoundTripBare", spec := "fnTextRoundTripBare", inPlace := ["unique.Make[net/netip.addrDetail]", "internal/bytealg.IndexByteString"], named := ["net/netip.z4", "net/netip.z6noz", "net/netip.z0"], apart := false, laid := [("net/netip.z4", laid_net_netip_z4), ("net/netip.z6noz", laid_net_netip_z6noz), ("net/netip.z0", laid_net_netip_z0)], narrowed := true }
def FnTextRoundTripBareUptoSaid : Prop := fnTextRoundTripBareUptoRow.holds Tryd.pinned (OpenSpec.upto fnTextRoundTripBareSpec)

/-- 'laws.FnDotted', WHERE WHAT IT READS IS OF BULK AT MOST 1048576: true; the input reads as it did. -/
def fnDottedUptoRow : OpenClaim := { program := "ytmlkcgacneealaadoor", sum := "0402519a550f59ad4181b13b99b734d80298a42483ef58a08c2183fe1db26b19", func := "lib-guidepost/laws.FnDotted", spec := "fnDotted", inPlace := ["unique.Make[net/netip.addrDetail]", "internal/bytealg.IndexByteString"], recurses := true, named := ["net/netip.z4", "net/netip.z0", "net/netip.z6noz"], apart := false, laid := [("net/netip.z4", laid_net_netip_z4), ("net/netip.z6noz", laid_net_netip_z6noz), ("net/netip.z0", laid_net_netip_z0)], narrowed := true }
def FnDottedUptoSaid : Prop := fnDottedUptoRow.holds Tryd.pinned (OpenSpec.upto fnDottedSpec)

end Rows
end Go.Proofs.YtmlkcgacneealaaDoor
