/-
  NARROWER THAN 'FOR EVERY INPUT', by the rows' own cells (each row's printed sentence says how): FnEncoded: loops · FnDecoded: loops · FnRoad: loops.
  DERIVED. THE GIVEN ROWS OF THIS SEAT. 16 by the template 'for every input the law returns true; each argument reads behind the call as it read before'; 0 by the template 'total and deterministic' (their statements: YtgijhgonpgidiaaTotals.lean).
  GIVEN WITH THE SEED: the statements are not yours to turn. If you find one false, say at which input.
  Laid BY PROGRAM, IN A SANDBOX (cutbox-rows.mjs): the forced cells as the released guide's own fill.sh prints them over the translation da80d41d62ff35ee… (all of the seat's roots in one cut). By AI agents, Wed Nov 11 2026. No macro, syntax, notation, axiom, sorry.
-/
import Derived.Test.YtgijhgonpgidiaaChecked
import GoSem.Claim
import GoSem.ClaimJoined
import GoSem.ClaimMapViews
import Derived.JoinedTies
import Derived.KernelRfl
namespace Go.Proofs.Ytgijhgonpgidiaa
/- THE CELL 'sum', in the pinned program and in every row, IS THE sha256 OF THE DUMP (.gsa) THAT YtgijhgonpgidiaaProg.lean LOADS. Nothing in Lean hashes anything: it is a label: what it is worth is what the hold of that sum in a sandbox is worth. -/
noncomputable def Try.pinned : Pinned := { name := "ytgijhgonpgidiaa", sum := "da80d41d62ff35eedb8883da0fc47ce977a50d40627a74e47ec3d399ec33be10", checked := Try.checked }
namespace Rows
def none {H : Type} : Left H := { results := [], args := [] }

/-- 'laws.FnEncoded': WHATEVER THE INPUT: true; the input reads as it did. -/
def fnEncodedSpec : ChangeSpec := { name := "fnEncoded", fn := fun _ => fun
  | [d1, d2] => { results := [.lit (.bool true)], args := [d1, d2] }
  | _ => none }
def fnEncodedRow : OpenClaim := { program := "ytgijhgonpgidiaa", sum := "da80d41d62ff35eedb8883da0fc47ce977a50d40627a74e47ec3d399ec33be10", func := "netlinkmessages/laws.FnEncoded", spec := "fnEncoded", unfollowed := true, recurses := true, loops := true, apart := false }
def FnEncodedSaid : Prop := fnEncodedRow.holds Try.pinned (OpenSpec.ofChange fnEncodedSpec)

/-- ITS FALSE NEIGHBOUR: 'it returns false'. Refute it at one input. -/
def fnEncodedWrong : ChangeSpec := { name := "fnEncoded", fn := fun _ => fun
  | [d1, d2] => { results := [.lit (.bool false)], args := [d1, d2] }
  | _ => none }
def FnEncodedWrongFalsely : Prop := fnEncodedRow.holds Try.pinned (OpenSpec.ofChange fnEncodedWrong)

/-- 'laws.FnAttributes': WHATEVER THE INPUT: true; the input reads as it did. -/
def fnAttributesSpec : ChangeSpec := { name := "fnAttributes", fn := fun _ => fun
  | [d] => { results := [.lit (.bool true)], args := [d] }
  | _ => none }
def fnAttributesRow : OpenClaim := { program := "ytgijhgonpgidiaa", sum := "da80d41d62ff35eedb8883da0fc47ce977a50d40627a74e47ec3d399ec33be10", func := "netlinkmessages/laws.FnAttributes", spec := "fnAttributes", unfollowed := true, recurses := true, apart := false }
def FnAttributesSaid : Prop := fnAttributesRow.holds Try.pinned (OpenSpec.ofChange fnAttributesSpec)

/-- ITS FALSE NEIGHBOUR: 'it returns false'. Refute it at one input. -/
def fnAttributesWrong : ChangeSpec := { name := "fnAttributes", fn := fun _ => fun
  | [d] => { results := [.lit (.bool false)], args := [d] }
  | _ => none }
def FnAttributesWrongFalsely : Prop := fnAttributesRow.holds Try.pinned (OpenSpec.ofChange fnAttributesWrong)

/-- 'laws.FnLength': WHATEVER THE INPUT: true; the input reads as it did. -/
def fnLengthSpec : ChangeSpec := { name := "fnLength", fn := fun _ => fun
  | [d1, d2] => { results := [.lit (.bool true)], args := [d1, d2] }
  | _ => none }
def fnLengthRow : OpenClaim := { program := "ytgijhgonpgidiaa", sum := "da80d41d62ff35eedb8883da0fc47ce977a50d40627a74e47ec3d399ec33be10", func := "netlinkmessages/laws.FnLength", spec := "fnLength", unfollowed := true, recurses := true, apart := false }
def FnLengthSaid : Prop := fnLengthRow.holds Try.pinned (OpenSpec.ofChange fnLengthSpec)

/-- ITS FALSE NEIGHBOUR: 'it returns false'. Refute it at one input. -/
def fnLengthWrong : ChangeSpec := { name := "fnLength", fn := fun _ => fun
  | [d1, d2] => { results := [.lit (.bool false)], args := [d1, d2] }
  | _ => none }
def FnLengthWrongFalsely : Prop := fnLengthRow.holds Try.pinned (OpenSpec.ofChange fnLengthWrong)

/-- 'laws.FnMessage': WHATEVER THE INPUT: true; the input reads as it did. -/
def fnMessageSpec : ChangeSpec := { name := "fnMessage", fn := fun _ => fun
  | [d] => { results := [.lit (.bool true)], args := [d] }
  | _ => none }
def fnMessageRow : OpenClaim := { program := "ytgijhgonpgidiaa", sum := "da80d41d62ff35eedb8883da0fc47ce977a50d40627a74e47ec3d399ec33be10", func := "netlinkmessages/laws.FnMessage", spec := "fnMessage", unfollowed := true, recurses := true, apart := false }
def FnMessageSaid : Prop := fnMessageRow.holds Try.pinned (OpenSpec.ofChange fnMessageSpec)

/-- ITS FALSE NEIGHBOUR: 'it returns false'. Refute it at one input. -/
def fnMessageWrong : ChangeSpec := { name := "fnMessage", fn := fun _ => fun
  | [d] => { results := [.lit (.bool false)], args := [d] }
  | _ => none }
def FnMessageWrongFalsely : Prop := fnMessageRow.holds Try.pinned (OpenSpec.ofChange fnMessageWrong)

/-- 'laws.FnMessageRead': WHATEVER THE INPUT: true; the input reads as it did. -/
def fnMessageReadSpec : ChangeSpec := { name := "fnMessageRead", fn := fun _ => fun
  | [d] => { results := [.lit (.bool true)], args := [d] }
  | _ => none }
def fnMessageReadRow : OpenClaim := { program := "ytgijhgonpgidiaa", sum := "da80d41d62ff35eedb8883da0fc47ce977a50d40627a74e47ec3d399ec33be10", func := "netlinkmessages/laws.FnMessageRead", spec := "fnMessageRead", unfollowed := true, recurses := true, apart := false }
def FnMessageReadSaid : Prop := fnMessageReadRow.holds Try.pinned (OpenSpec.ofChange fnMessageReadSpec)

/-- ITS FALSE NEIGHBOUR: 'it returns false'. Refute it at one input. -/
def fnMessageReadWrong : ChangeSpec := { name := "fnMessageRead", fn := fun _ => fun
  | [d] => { results := [.lit (.bool false)], args := [d] }
  | _ => none }
def FnMessageReadWrongFalsely : Prop := fnMessageReadRow.holds Try.pinned (OpenSpec.ofChange fnMessageReadWrong)

/-- 'laws.FnShort': WHATEVER THE INPUT: true; the input reads as it did. -/
def fnShortSpec : ChangeSpec := { name := "fnShort", fn := fun _ => fun
  | [d1, d2] => { results := [.lit (.bool true)], args := [d1, d2] }
  | _ => none }
def fnShortRow : OpenClaim := { program := "ytgijhgonpgidiaa", sum := "da80d41d62ff35eedb8883da0fc47ce977a50d40627a74e47ec3d399ec33be10", func := "netlinkmessages/laws.FnShort", spec := "fnShort", unfollowed := true, recurses := true, apart := false }
def FnShortSaid : Prop := fnShortRow.holds Try.pinned (OpenSpec.ofChange fnShortSpec)

/-- ITS FALSE NEIGHBOUR: 'it returns false'. Refute it at one input. -/
def fnShortWrong : ChangeSpec := { name := "fnShort", fn := fun _ => fun
  | [d1, d2] => { results := [.lit (.bool false)], args := [d1, d2] }
  | _ => none }
def FnShortWrongFalsely : Prop := fnShortRow.holds Try.pinned (OpenSpec.ofChange fnShortWrong)

/-- 'laws.FnValid': WHATEVER THE INPUT: true; the input reads as it did. -/
def fnValidSpec : ChangeSpec := { name := "fnValid", fn := fun _ => fun
  | [d1, d2] => { results := [.lit (.bool true)], args := [d1, d2] }
  | _ => none }
def fnValidRow : OpenClaim := { program := "ytgijhgonpgidiaa", sum := "da80d41d62ff35eedb8883da0fc47ce977a50d40627a74e47ec3d399ec33be10", func := "netlinkmessages/laws.FnValid", spec := "fnValid", unfollowed := true, recurses := true, apart := false }
def FnValidSaid : Prop := fnValidRow.holds Try.pinned (OpenSpec.ofChange fnValidSpec)

/-- ITS FALSE NEIGHBOUR: 'it returns false'. Refute it at one input. -/
def fnValidWrong : ChangeSpec := { name := "fnValid", fn := fun _ => fun
  | [d1, d2] => { results := [.lit (.bool false)], args := [d1, d2] }
  | _ => none }
def FnValidWrongFalsely : Prop := fnValidRow.holds Try.pinned (OpenSpec.ofChange fnValidWrong)

/-- 'laws.FnMessages': WHATEVER THE INPUT: true; the input reads as it did. -/
def fnMessagesSpec : ChangeSpec := { name := "fnMessages", fn := fun _ => fun
  | [d] => { results := [.lit (.bool true)], args := [d] }
  | _ => none }
def fnMessagesRow : OpenClaim := { program := "ytgijhgonpgidiaa", sum := "da80d41d62ff35eedb8883da0fc47ce977a50d40627a74e47ec3d399ec33be10", func := "netlinkmessages/laws.FnMessages", spec := "fnMessages", unfollowed := true, recurses := true, apart := false }
def FnMessagesSaid : Prop := fnMessagesRow.holds Try.pinned (OpenSpec.ofChange fnMessagesSpec)

/-- ITS FALSE NEIGHBOUR: 'it returns false'. Refute it at one input. -/
def fnMessagesWrong : ChangeSpec := { name := "fnMessages", fn := fun _ => fun
  | [d] => { results := [.lit (.bool false)], args := [d] }
  | _ => none }
def FnMessagesWrongFalsely : Prop := fnMessagesRow.holds Try.pinned (OpenSpec.ofChange fnMessagesWrong)

/-- 'laws.FnAttributesRead': WHATEVER THE INPUT: true; the input reads as it did. -/
def fnAttributesReadSpec : ChangeSpec := { name := "fnAttributesRead", fn := fun _ => fun
  | [d] => { results := [.lit (.bool true)], args := [d] }
  | _ => none }
def fnAttributesReadRow : OpenClaim := { program := "ytgijhgonpgidiaa", sum := "da80d41d62ff35eedb8883da0fc47ce977a50d40627a74e47ec3d399ec33be10", func := "netlinkmessages/laws.FnAttributesRead", spec := "fnAttributesRead", unfollowed := true, recurses := true, apart := false }
def FnAttributesReadSaid : Prop := fnAttributesReadRow.holds Try.pinned (OpenSpec.ofChange fnAttributesReadSpec)

/-- ITS FALSE NEIGHBOUR: 'it returns false'. Refute it at one input. -/
def fnAttributesReadWrong : ChangeSpec := { name := "fnAttributesRead", fn := fun _ => fun
  | [d] => { results := [.lit (.bool false)], args := [d] }
  | _ => none }
def FnAttributesReadWrongFalsely : Prop := fnAttributesReadRow.holds Try.pinned (OpenSpec.ofChange fnAttributesReadWrong)

/-- 'laws.FnCut': WHATEVER THE INPUT: true; the input reads as it did. -/
def fnCutSpec : ChangeSpec := { name := "fnCut", fn := fun _ => fun
  | [d1, d2] => { results := [.lit (.bool true)], args := [d1, d2] }
  | _ => none }
def fnCutRow : OpenClaim := { program := "ytgijhgonpgidiaa", sum := "da80d41d62ff35eedb8883da0fc47ce977a50d40627a74e47ec3d399ec33be10", func := "netlinkmessages/laws.FnCut", spec := "fnCut", unfollowed := true, recurses := true, apart := false }
def FnCutSaid : Prop := fnCutRow.holds Try.pinned (OpenSpec.ofChange fnCutSpec)

/-- ITS FALSE NEIGHBOUR: 'it returns false'. Refute it at one input. -/
def fnCutWrong : ChangeSpec := { name := "fnCut", fn := fun _ => fun
  | [d1, d2] => { results := [.lit (.bool false)], args := [d1, d2] }
  | _ => none }
def FnCutWrongFalsely : Prop := fnCutRow.holds Try.pinned (OpenSpec.ofChange fnCutWrong)

/-- 'laws.FnFault': WHATEVER THE INPUT: true; the input reads as it did. -/
def fnFaultSpec : ChangeSpec := { name := "fnFault", fn := fun _ => fun
  | [d1, d2, d3, d4, d5, d6, d7] => { results := [.lit (.bool true)], args := [d1, d2, d3, d4, d5, d6, d7] }
  | _ => none }
def fnFaultRow : OpenClaim := { program := "ytgijhgonpgidiaa", sum := "da80d41d62ff35eedb8883da0fc47ce977a50d40627a74e47ec3d399ec33be10", func := "netlinkmessages/laws.FnFault", spec := "fnFault", unfollowed := true, recurses := true, apart := false }
def FnFaultSaid : Prop := fnFaultRow.holds Try.pinned (OpenSpec.ofChange fnFaultSpec)

/-- ITS FALSE NEIGHBOUR: 'it returns false'. Refute it at one input. -/
def fnFaultWrong : ChangeSpec := { name := "fnFault", fn := fun _ => fun
  | [d1, d2, d3, d4, d5, d6, d7] => { results := [.lit (.bool false)], args := [d1, d2, d3, d4, d5, d6, d7] }
  | _ => none }
def FnFaultWrongFalsely : Prop := fnFaultRow.holds Try.pinned (OpenSpec.ofChange fnFaultWrong)

/-- 'laws.FnNoFault': WHATEVER THE INPUT: true; the input reads as it did. -/
def fnNoFaultSpec : ChangeSpec := { name := "fnNoFault", fn := fun _ => fun
  | [d1, d2, d3] => { results := [.lit (.bool true)], args := [d1, d2, d3] }
  | _ => none }
def fnNoFaultRow : OpenClaim := { program := "ytgijhgonpgidiaa", sum := "da80d41d62ff35eedb8883da0fc47ce977a50d40627a74e47ec3d399ec33be10", func := "netlinkmessages/laws.FnNoFault", spec := "fnNoFault", unfollowed := true, recurses := true, apart := false }
def FnNoFaultSaid : Prop := fnNoFaultRow.holds Try.pinned (OpenSpec.ofChange fnNoFaultSpec)

/-- ITS FALSE NEIGHBOUR: 'it returns false'. Refute it at one input. -/
def fnNoFaultWrong : ChangeSpec := { name := "fnNoFault", fn := fun _ => fun
  | [d1, d2, d3] => { results := [.lit (.bool false)], args := [d1, d2, d3] }
  | _ => none }
def FnNoFaultWrongFalsely : Prop := fnNoFaultRow.holds Try.pinned (OpenSpec.ofChange fnNoFaultWrong)

/-- 'laws.FnDecoded': WHATEVER THE INPUT: true; the input reads as it did. -/
def fnDecodedSpec : ChangeSpec := { name := "fnDecoded", fn := fun _ => fun
  | [d1, d2] => { results := [.lit (.bool true)], args := [d1, d2] }
  | _ => none }
def fnDecodedRow : OpenClaim := { program := "ytgijhgonpgidiaa", sum := "da80d41d62ff35eedb8883da0fc47ce977a50d40627a74e47ec3d399ec33be10", func := "netlinkmessages/laws.FnDecoded", spec := "fnDecoded", unfollowed := true, recurses := true, loops := true, apart := false }
def FnDecodedSaid : Prop := fnDecodedRow.holds Try.pinned (OpenSpec.ofChange fnDecodedSpec)

/-- ITS FALSE NEIGHBOUR: 'it returns false'. Refute it at one input. -/
def fnDecodedWrong : ChangeSpec := { name := "fnDecoded", fn := fun _ => fun
  | [d1, d2] => { results := [.lit (.bool false)], args := [d1, d2] }
  | _ => none }
def FnDecodedWrongFalsely : Prop := fnDecodedRow.holds Try.pinned (OpenSpec.ofChange fnDecodedWrong)

/-- 'laws.FnFlag': WHATEVER THE INPUT: true; the input reads as it did. -/
def fnFlagSpec : ChangeSpec := { name := "fnFlag", fn := fun _ => fun
  | [d] => { results := [.lit (.bool true)], args := [d] }
  | _ => none }
def fnFlagRow : OpenClaim := { program := "ytgijhgonpgidiaa", sum := "da80d41d62ff35eedb8883da0fc47ce977a50d40627a74e47ec3d399ec33be10", func := "netlinkmessages/laws.FnFlag", spec := "fnFlag", unfollowed := true, recurses := true, apart := false }
def FnFlagSaid : Prop := fnFlagRow.holds Try.pinned (OpenSpec.ofChange fnFlagSpec)

/-- ITS FALSE NEIGHBOUR: 'it returns false'. Refute it at one input. -/
def fnFlagWrong : ChangeSpec := { name := "fnFlag", fn := fun _ => fun
  | [d] => { results := [.lit (.bool false)], args := [d] }
  | _ => none }
def FnFlagWrongFalsely : Prop := fnFlagRow.holds Try.pinned (OpenSpec.ofChange fnFlagWrong)

/-- 'laws.FnRoad': WHATEVER THE INPUT: true; the input reads as it did. -/
def fnRoadSpec : ChangeSpec := { name := "fnRoad", fn := fun _ => fun
  | [d1, d2] => { results := [.lit (.bool true)], args := [d1, d2] }
  | _ => none }
def fnRoadRow : OpenClaim := { program := "ytgijhgonpgidiaa", sum := "da80d41d62ff35eedb8883da0fc47ce977a50d40627a74e47ec3d399ec33be10", func := "netlinkmessages/laws.FnRoad", spec := "fnRoad", unfollowed := true, recurses := true, loops := true, apart := false }
def FnRoadSaid : Prop := fnRoadRow.holds Try.pinned (OpenSpec.ofChange fnRoadSpec)

/-- ITS FALSE NEIGHBOUR: 'it returns false'. Refute it at one input. -/
def fnRoadWrong : ChangeSpec := { name := "fnRoad", fn := fun _ => fun
  | [d1, d2] => { results := [.lit (.bool false)], args := [d1, d2] }
  | _ => none }
def FnRoadWrongFalsely : Prop := fnRoadRow.holds Try.pinned (OpenSpec.ofChange fnRoadWrong)

/-- 'laws.FnWidth': WHATEVER THE INPUT: true; the input reads as it did. -/
def fnWidthSpec : ChangeSpec := { name := "fnWidth", fn := fun _ => fun
  | [d1, d2] => { results := [.lit (.bool true)], args := [d1, d2] }
  | _ => none }
def fnWidthRow : OpenClaim := { program := "ytgijhgonpgidiaa", sum := "da80d41d62ff35eedb8883da0fc47ce977a50d40627a74e47ec3d399ec33be10", func := "netlinkmessages/laws.FnWidth", spec := "fnWidth", unfollowed := true, recurses := true, apart := false }
def FnWidthSaid : Prop := fnWidthRow.holds Try.pinned (OpenSpec.ofChange fnWidthSpec)

/-- ITS FALSE NEIGHBOUR: 'it returns false'. Refute it at one input. -/
def fnWidthWrong : ChangeSpec := { name := "fnWidth", fn := fun _ => fun
  | [d1, d2] => { results := [.lit (.bool false)], args := [d1, d2] }
  | _ => none }
def FnWidthWrongFalsely : Prop := fnWidthRow.holds Try.pinned (OpenSpec.ofChange fnWidthWrong)

/- THE SECOND FORM. 'bulk': how many values and letters a reading holds, each counted each time it is reached (what is shared counts as often as it is met; a slice's spare places count too). A statement '..UptoSaid' is the law's where the arguments, and the package variables that the reading takes, are together of bulk at most 1048576: NARROWER than '..Said'. Prove '..Said' where nothing that the law and all that it calls make is longer than what came in: it says more and counts as full. Else prove '..UptoSaid'. A law counts once. -/
mutual
def uptoBulk {H : Type} : DataW H → Nat
  | .lit (.string bytes) => bytes.length + 1
  | .lit _ => 1
  | .nil => 1
  | .ptr d => uptoBulk d + 1
  | .slice elems spare => uptoBulkAll elems + uptoBulkAll spare + 1
  | .agg parts => uptoBulkAll parts + 1
  | .iface _ d => uptoBulk d + 1
  | .map entries => uptoBulkEntries entries + 1
  | .held _ => 1
def uptoBulkAll {H : Type} : List (DataW H) → Nat
  | [] => 0
  | d :: r => uptoBulk d + uptoBulkAll r
def uptoBulkEntries {H : Type} : List (Lit × DataW H) → Nat
  | [] => 0
  | x :: r => uptoBulkEntry x + uptoBulkEntries r
def uptoBulkEntry {H : Type} : Lit × DataW H → Nat
  | (.string bytes, d) => bytes.length + uptoBulk d + 1
  | (_, d) => uptoBulk d + 1
 end
def uptoSmall : (H : Type) → List (DataW H) → Bool := fun _ ds => decide (uptoBulkAll ds ≤ 1048576)
def OpenSpec.upto (s : _root_.Go.ChangeSpec) : _root_.Go.OpenSpec := { _root_.Go.OpenSpec.ofChange s with cond := some uptoSmall }

/-- 'laws.FnEncoded', WHERE WHAT IT READS IS OF BULK AT MOST 1048576: true; the input reads as it did. -/
def fnEncodedUptoRow : OpenClaim := { program := "ytgijhgonpgidiaa", sum := "da80d41d62ff35eedb8883da0fc47ce977a50d40627a74e47ec3d399ec33be10", func := "netlinkmessages/laws.FnEncoded", spec := "fnEncoded", unfollowed := true, recurses := true, loops := true, apart := false, narrowed := true }
def FnEncodedUptoSaid : Prop := fnEncodedUptoRow.holds Try.pinned (OpenSpec.upto fnEncodedSpec)

/-- 'laws.FnAttributes', WHERE WHAT IT READS IS OF BULK AT MOST 1048576: true; the input reads as it did. -/
def fnAttributesUptoRow : OpenClaim := { program := "ytgijhgonpgidiaa", sum := "da80d41d62ff35eedb8883da0fc47ce977a50d40627a74e47ec3d399ec33be10", func := "netlinkmessages/laws.FnAttributes", spec := "fnAttributes", unfollowed := true, recurses := true, apart := false, narrowed := true }
def FnAttributesUptoSaid : Prop := fnAttributesUptoRow.holds Try.pinned (OpenSpec.upto fnAttributesSpec)

/-- 'laws.FnLength', WHERE WHAT IT READS IS OF BULK AT MOST 1048576: true; the input reads as it did. -/
def fnLengthUptoRow : OpenClaim := { program := "ytgijhgonpgidiaa", sum := "da80d41d62ff35eedb8883da0fc47ce977a50d40627a74e47ec3d399ec33be10", func := "netlinkmessages/laws.FnLength", spec := "fnLength", unfollowed := true, recurses := true, apart := false, narrowed := true }
def FnLengthUptoSaid : Prop := fnLengthUptoRow.holds Try.pinned (OpenSpec.upto fnLengthSpec)

/-- 'laws.FnMessage', WHERE WHAT IT READS IS OF BULK AT MOST 1048576: true; the input reads as it did. -/
def fnMessageUptoRow : OpenClaim := { program := "ytgijhgonpgidiaa", sum := "da80d41d62ff35eedb8883da0fc47ce977a50d40627a74e47ec3d399ec33be10", func := "netlinkmessages/laws.FnMessage", spec := "fnMessage", unfollowed := true, recurses := true, apart := false, narrowed := true }
def FnMessageUptoSaid : Prop := fnMessageUptoRow.holds Try.pinned (OpenSpec.upto fnMessageSpec)

/-- 'laws.FnMessageRead', WHERE WHAT IT READS IS OF BULK AT MOST 1048576: true; the input reads as it did. -/
def fnMessageReadUptoRow : OpenClaim := { program := "ytgijhgonpgidiaa", sum := "da80d41d62ff35eedb8883da0fc47ce977a50d40627a74e47ec3d399ec33be10", func := "netlinkmessages/laws.FnMessageRead", spec := "fnMessageRead", unfollowed := true, recurses := true, apart := false, narrowed := true }
def FnMessageReadUptoSaid : Prop := fnMessageReadUptoRow.holds Try.pinned (OpenSpec.upto fnMessageReadSpec)

/-- 'laws.FnShort', WHERE WHAT IT READS IS OF BULK AT MOST 1048576: true; the input reads as it did. -/
def fnShortUptoRow : OpenClaim := { program := "ytgijhgonpgidiaa", sum := "da80d41d62ff35eedb8883da0fc47ce977a50d40627a74e47ec3d399ec33be10", func := "netlinkmessages/laws.FnShort", spec := "fnShort", unfollowed := true, recurses := true, apart := false, narrowed := true }
def FnShortUptoSaid : Prop := fnShortUptoRow.holds Try.pinned (OpenSpec.upto fnShortSpec)

/-- 'laws.FnValid', WHERE WHAT IT READS IS OF BULK AT MOST 1048576: true; the input reads as it did. -/
def fnValidUptoRow : OpenClaim := { program := "ytgijhgonpgidiaa", sum := "da80d41d62ff35eedb8883da0fc47ce977a50d40627a74e47ec3d399ec33be10", func := "netlinkmessages/laws.FnValid", spec := "fnValid", unfollowed := true, recurses := true, apart := false, narrowed := true }
def FnValidUptoSaid : Prop := fnValidUptoRow.holds Try.pinned (OpenSpec.upto fnValidSpec)

/-- 'laws.FnMessages', WHERE WHAT IT READS IS OF BULK AT MOST 1048576: true; the input reads as it did. -/
def fnMessagesUptoRow : OpenClaim := { program := "ytgijhgonpgidiaa", sum := "da80d41d62ff35eedb8883da0fc47ce977a50d40627a74e47ec3d399ec33be10", func := "netlinkmessages/laws.FnMessages", spec := "fnMessages", unfollowed := true, recurses := true, apart := false, narrowed := true }
def FnMessagesUptoSaid : Prop := fnMessagesUptoRow.holds Try.pinned (OpenSpec.upto fnMessagesSpec)

/-- 'laws.FnAttributesRead', WHERE WHAT IT READS IS OF BULK AT MOST 1048576: true; the input reads as it did. -/
def fnAttributesReadUptoRow : OpenClaim := { program := "ytgijhgonpgidiaa", sum := "da80d41d62ff35eedb8883da0fc47ce977a50d40627a74e47ec3d399ec33be10", func := "netlinkmessages/laws.FnAttributesRead", spec := "fnAttributesRead", unfollowed := true, recurses := true, apart := false, narrowed := true }
def FnAttributesReadUptoSaid : Prop := fnAttributesReadUptoRow.holds Try.pinned (OpenSpec.upto fnAttributesReadSpec)

/-- 'laws.FnCut', WHERE WHAT IT READS IS OF BULK AT MOST 1048576: true; the input reads as it did. -/
def fnCutUptoRow : OpenClaim := { program := "ytgijhgonpgidiaa", sum := "da80d41d62ff35eedb8883da0fc47ce977a50d40627a74e47ec3d399ec33be10", func := "netlinkmessages/laws.FnCut", spec := "fnCut", unfollowed := true, recurses := true, apart := false, narrowed := true }
def FnCutUptoSaid : Prop := fnCutUptoRow.holds Try.pinned (OpenSpec.upto fnCutSpec)

/-- 'laws.FnFault', WHERE WHAT IT READS IS OF BULK AT MOST 1048576: true; the input reads as it did. -/
def fnFaultUptoRow : OpenClaim := { program := "ytgijhgonpgidiaa", sum := "da80d41d62ff35eedb8883da0fc47ce977a50d40627a74e47ec3d399ec33be10", func := "netlinkmessages/laws.FnFault", spec := "fnFault", unfollowed := true, recurses := true, apart := false, narrowed := true }
def FnFaultUptoSaid : Prop := fnFaultUptoRow.holds Try.pinned (OpenSpec.upto fnFaultSpec)

/-- 'laws.FnNoFault', WHERE WHAT IT READS IS OF BULK AT MOST 1048576: true; the input reads as it did. -/
def fnNoFaultUptoRow : OpenClaim := { program := "ytgijhgonpgidiaa", sum := "da80d41d62ff35eedb8883da0fc47ce977a50d40627a74e47ec3d399ec33be10", func := "netlinkmessages/laws.FnNoFault", spec := "fnNoFault", unfollowed := true, recurses := true, apart := false, narrowed := true }
def FnNoFaultUptoSaid : Prop := fnNoFaultUptoRow.holds Try.pinned (OpenSpec.upto fnNoFaultSpec)

/-- 'laws.FnDecoded', WHERE WHAT IT READS IS OF BULK AT MOST 1048576: true; the input reads as it did. -/
def fnDecodedUptoRow : OpenClaim := { program := "ytgijhgonpgidiaa", sum := "da80d41d62ff35eedb8883da0fc47ce977a50d40627a74e47ec3d399ec33be10", func := "netlinkmessages/laws.FnDecoded", spec := "fnDecoded", unfollowed := true, recurses := true, loops := true, apart := false, narrowed := true }
def FnDecodedUptoSaid : Prop := fnDecodedUptoRow.holds Try.pinned (OpenSpec.upto fnDecodedSpec)

/-- 'laws.FnFlag', WHERE WHAT IT READS IS OF BULK AT MOST 1048576: true; the input reads as it did. -/
def fnFlagUptoRow : OpenClaim := { program := "ytgijhgonpgidiaa", sum := "da80d41d62ff35eedb8883da0fc47ce977a50d40627a74e47ec3d399ec33be10", func := "netlinkmessages/laws.FnFlag", spec := "fnFlag", unfollowed := true, recurses := true, apart := false, narrowed := true }
def FnFlagUptoSaid : Prop := fnFlagUptoRow.holds Try.pinned (OpenSpec.upto fnFlagSpec)

/-- 'laws.FnRoad', WHERE WHAT IT READS IS OF BULK AT MOST 1048576: true; the input reads as it did. -/
def fnRoadUptoRow : OpenClaim := { program := "ytgijhgonpgidiaa", sum := "da80d41d62ff35eedb8883da0fc47ce977a50d40627a74e47ec3d399ec33be10", func := "netlinkmessages/laws.FnRoad", spec := "fnRoad", unfollowed := true, recurses := true, loops := true, apart := false, narrowed := true }
def FnRoadUptoSaid : Prop := fnRoadUptoRow.holds Try.pinned (OpenSpec.upto fnRoadSpec)

/-- 'laws.FnWidth', WHERE WHAT IT READS IS OF BULK AT MOST 1048576: true; the input reads as it did. -/
def fnWidthUptoRow : OpenClaim := { program := "ytgijhgonpgidiaa", sum := "da80d41d62ff35eedb8883da0fc47ce977a50d40627a74e47ec3d399ec33be10", func := "netlinkmessages/laws.FnWidth", spec := "fnWidth", unfollowed := true, recurses := true, apart := false, narrowed := true }
def FnWidthUptoSaid : Prop := fnWidthUptoRow.holds Try.pinned (OpenSpec.upto fnWidthSpec)

end Rows
end Go.Proofs.Ytgijhgonpgidiaa
