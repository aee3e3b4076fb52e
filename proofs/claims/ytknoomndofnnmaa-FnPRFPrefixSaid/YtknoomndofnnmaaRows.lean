/-
  No cell of these rows narrows 'for every input' (looked for: loops, veiled, ifaces, maps, wideKeys, modest, calm, conditions, laid).
  DERIVED. THE GIVEN ROWS OF THIS SEAT. 14 by the template 'for every input the law returns true; each argument reads behind the call as it read before'; 0 by the template 'total and deterministic' (their statements: YtknoomndofnnmaaTotals.lean).
  GIVEN WITH THE SEED: the statements are not yours to turn. If you find one false, say at which input.
  Laid BY PROGRAM, IN A SANDBOX (cutbox-rows.mjs): the forced cells as the released guide's own fill.sh prints them over the translation 999f8145c7223f0d… (all of the seat's roots in one cut). By AI agents, Wed Nov 11 2026. No macro, syntax, notation, axiom, sorry.
-/
import Derived.Test.YtknoomndofnnmaaChecked
import GoSem.Claim
import GoSem.ClaimJoined
import GoSem.ClaimMapViews
import Derived.JoinedTies
import Derived.KernelRfl
namespace Go.Proofs.Ytknoomndofnnmaa
/- THE CELL 'sum', in the pinned program and in every row, IS THE sha256 OF THE DUMP (.gsa) THAT YtknoomndofnnmaaProg.lean LOADS. Nothing in Lean hashes anything: it is a label: what it is worth is what the hold of that sum in a sandbox is worth. -/
noncomputable def Try.pinned : Pinned := { name := "ytknoomndofnnmaa", sum := "999f8145c7223f0d1ff6436ba6a68ca810ed91233caba4dd3ece050857244b43", checked := Try.checked }
namespace Rows
def none {H : Type} : Left H := { results := [], args := [] }

/-- 'laws.FnPHash': WHATEVER THE INPUT: true; the input reads as it did. -/
def fnPHashSpec : ChangeSpec := { name := "fnPHash", fn := fun _ => fun
  | [d1, d2, d3, d4] => { results := [.lit (.bool true)], args := [d1, d2, d3, d4] }
  | _ => none }
def fnPHashRow : OpenClaim := { program := "ytknoomndofnnmaa", sum := "999f8145c7223f0d1ff6436ba6a68ca810ed91233caba4dd3ece050857244b43", func := "loop.example/pub-g03030/laws.FnPHash", spec := "fnPHash", unfollowed := true, recurses := true, apart := false }
def FnPHashSaid : Prop := fnPHashRow.holds Try.pinned (OpenSpec.ofChange fnPHashSpec)

/-- ITS FALSE NEIGHBOUR: 'it returns false'. Refute it at one input. -/
def fnPHashWrong : ChangeSpec := { name := "fnPHash", fn := fun _ => fun
  | [d1, d2, d3, d4] => { results := [.lit (.bool false)], args := [d1, d2, d3, d4] }
  | _ => none }
def FnPHashWrongFalsely : Prop := fnPHashRow.holds Try.pinned (OpenSpec.ofChange fnPHashWrong)

/-- 'laws.FnPHashStep': WHATEVER THE INPUT: true; the input reads as it did. -/
def fnPHashStepSpec : ChangeSpec := { name := "fnPHashStep", fn := fun _ => fun
  | [d1, d2, d3] => { results := [.lit (.bool true)], args := [d1, d2, d3] }
  | _ => none }
def fnPHashStepRow : OpenClaim := { program := "ytknoomndofnnmaa", sum := "999f8145c7223f0d1ff6436ba6a68ca810ed91233caba4dd3ece050857244b43", func := "loop.example/pub-g03030/laws.FnPHashStep", spec := "fnPHashStep", unfollowed := true, recurses := true, apart := false }
def FnPHashStepSaid : Prop := fnPHashStepRow.holds Try.pinned (OpenSpec.ofChange fnPHashStepSpec)

/-- ITS FALSE NEIGHBOUR: 'it returns false'. Refute it at one input. -/
def fnPHashStepWrong : ChangeSpec := { name := "fnPHashStep", fn := fun _ => fun
  | [d1, d2, d3] => { results := [.lit (.bool false)], args := [d1, d2, d3] }
  | _ => none }
def FnPHashStepWrongFalsely : Prop := fnPHashStepRow.holds Try.pinned (OpenSpec.ofChange fnPHashStepWrong)

/-- 'laws.FnPRF': WHATEVER THE INPUT: true; the input reads as it did. -/
def fnPRFSpec : ChangeSpec := { name := "fnPRF", fn := fun _ => fun
  | [d1, d2, d3, d4, d5] => { results := [.lit (.bool true)], args := [d1, d2, d3, d4, d5] }
  | _ => none }
def fnPRFRow : OpenClaim := { program := "ytknoomndofnnmaa", sum := "999f8145c7223f0d1ff6436ba6a68ca810ed91233caba4dd3ece050857244b43", func := "loop.example/pub-g03030/laws.FnPRF", spec := "fnPRF", unfollowed := true, recurses := true, apart := false }
def FnPRFSaid : Prop := fnPRFRow.holds Try.pinned (OpenSpec.ofChange fnPRFSpec)

/-- ITS FALSE NEIGHBOUR: 'it returns false'. Refute it at one input. -/
def fnPRFWrong : ChangeSpec := { name := "fnPRF", fn := fun _ => fun
  | [d1, d2, d3, d4, d5] => { results := [.lit (.bool false)], args := [d1, d2, d3, d4, d5] }
  | _ => none }
def FnPRFWrongFalsely : Prop := fnPRFRow.holds Try.pinned (OpenSpec.ofChange fnPRFWrong)

/-- 'laws.FnPRFCut': WHATEVER THE INPUT: true; the input reads as it did. -/
def fnPRFCutSpec : ChangeSpec := { name := "fnPRFCut", fn := fun _ => fun
  | [d1, d2, d3, d4, d5] => { results := [.lit (.bool true)], args := [d1, d2, d3, d4, d5] }
  | _ => none }
def fnPRFCutRow : OpenClaim := { program := "ytknoomndofnnmaa", sum := "999f8145c7223f0d1ff6436ba6a68ca810ed91233caba4dd3ece050857244b43", func := "loop.example/pub-g03030/laws.FnPRFCut", spec := "fnPRFCut", unfollowed := true, recurses := true, apart := false }
def FnPRFCutSaid : Prop := fnPRFCutRow.holds Try.pinned (OpenSpec.ofChange fnPRFCutSpec)

/-- ITS FALSE NEIGHBOUR: 'it returns false'. Refute it at one input. -/
def fnPRFCutWrong : ChangeSpec := { name := "fnPRFCut", fn := fun _ => fun
  | [d1, d2, d3, d4, d5] => { results := [.lit (.bool false)], args := [d1, d2, d3, d4, d5] }
  | _ => none }
def FnPRFCutWrongFalsely : Prop := fnPRFCutRow.holds Try.pinned (OpenSpec.ofChange fnPRFCutWrong)

/-- 'laws.FnPRFPrefix': WHATEVER THE INPUT: true; the input reads as it did. -/
def fnPRFPrefixSpec : ChangeSpec := { name := "fnPRFPrefix", fn := fun _ => fun
  | [d1, d2, d3, d4, d5, d6] => { results := [.lit (.bool true)], args := [d1, d2, d3, d4, d5, d6] }
  | _ => none }
def fnPRFPrefixRow : OpenClaim := { program := "ytknoomndofnnmaa", sum := "999f8145c7223f0d1ff6436ba6a68ca810ed91233caba4dd3ece050857244b43", func := "loop.example/pub-g03030/laws.FnPRFPrefix", spec := "fnPRFPrefix", unfollowed := true, recurses := true, apart := false }
def FnPRFPrefixSaid : Prop := fnPRFPrefixRow.holds Try.pinned (OpenSpec.ofChange fnPRFPrefixSpec)

/-- ITS FALSE NEIGHBOUR: 'it returns false'. Refute it at one input. -/
def fnPRFPrefixWrong : ChangeSpec := { name := "fnPRFPrefix", fn := fun _ => fun
  | [d1, d2, d3, d4, d5, d6] => { results := [.lit (.bool false)], args := [d1, d2, d3, d4, d5, d6] }
  | _ => none }
def FnPRFPrefixWrongFalsely : Prop := fnPRFPrefixRow.holds Try.pinned (OpenSpec.ofChange fnPRFPrefixWrong)

/-- 'laws.FnMaster': WHATEVER THE INPUT: true; the input reads as it did. -/
def fnMasterSpec : ChangeSpec := { name := "fnMaster", fn := fun _ => fun
  | [d1, d2, d3] => { results := [.lit (.bool true)], args := [d1, d2, d3] }
  | _ => none }
def fnMasterRow : OpenClaim := { program := "ytknoomndofnnmaa", sum := "999f8145c7223f0d1ff6436ba6a68ca810ed91233caba4dd3ece050857244b43", func := "loop.example/pub-g03030/laws.FnMaster", spec := "fnMaster", unfollowed := true, recurses := true, apart := false }
def FnMasterSaid : Prop := fnMasterRow.holds Try.pinned (OpenSpec.ofChange fnMasterSpec)

/-- ITS FALSE NEIGHBOUR: 'it returns false'. Refute it at one input. -/
def fnMasterWrong : ChangeSpec := { name := "fnMaster", fn := fun _ => fun
  | [d1, d2, d3] => { results := [.lit (.bool false)], args := [d1, d2, d3] }
  | _ => none }
def FnMasterWrongFalsely : Prop := fnMasterRow.holds Try.pinned (OpenSpec.ofChange fnMasterWrong)

/-- 'laws.FnExtract': WHATEVER THE INPUT: true; the input reads as it did. -/
def fnExtractSpec : ChangeSpec := { name := "fnExtract", fn := fun _ => fun
  | [d1, d2, d3] => { results := [.lit (.bool true)], args := [d1, d2, d3] }
  | _ => none }
def fnExtractRow : OpenClaim := { program := "ytknoomndofnnmaa", sum := "999f8145c7223f0d1ff6436ba6a68ca810ed91233caba4dd3ece050857244b43", func := "loop.example/pub-g03030/laws.FnExtract", spec := "fnExtract", unfollowed := true, recurses := true, apart := false }
def FnExtractSaid : Prop := fnExtractRow.holds Try.pinned (OpenSpec.ofChange fnExtractSpec)

/-- ITS FALSE NEIGHBOUR: 'it returns false'. Refute it at one input. -/
def fnExtractWrong : ChangeSpec := { name := "fnExtract", fn := fun _ => fun
  | [d1, d2, d3] => { results := [.lit (.bool false)], args := [d1, d2, d3] }
  | _ => none }
def FnExtractWrongFalsely : Prop := fnExtractRow.holds Try.pinned (OpenSpec.ofChange fnExtractWrong)

/-- 'laws.FnMasterRoad': WHATEVER THE INPUT: true; the input reads as it did. -/
def fnMasterRoadSpec : ChangeSpec := { name := "fnMasterRoad", fn := fun _ => fun
  | [d1, d2, d3] => { results := [.lit (.bool true)], args := [d1, d2, d3] }
  | _ => none }
def fnMasterRoadRow : OpenClaim := { program := "ytknoomndofnnmaa", sum := "999f8145c7223f0d1ff6436ba6a68ca810ed91233caba4dd3ece050857244b43", func := "loop.example/pub-g03030/laws.FnMasterRoad", spec := "fnMasterRoad", unfollowed := true, recurses := true, apart := false }
def FnMasterRoadSaid : Prop := fnMasterRoadRow.holds Try.pinned (OpenSpec.ofChange fnMasterRoadSpec)

/-- ITS FALSE NEIGHBOUR: 'it returns false'. Refute it at one input. -/
def fnMasterRoadWrong : ChangeSpec := { name := "fnMasterRoad", fn := fun _ => fun
  | [d1, d2, d3] => { results := [.lit (.bool false)], args := [d1, d2, d3] }
  | _ => none }
def FnMasterRoadWrongFalsely : Prop := fnMasterRoadRow.holds Try.pinned (OpenSpec.ofChange fnMasterRoadWrong)

/-- 'laws.FnPRFRoad': WHATEVER THE INPUT: true; the input reads as it did. -/
def fnPRFRoadSpec : ChangeSpec := { name := "fnPRFRoad", fn := fun _ => fun
  | [d1, d2, d3, d4, d5] => { results := [.lit (.bool true)], args := [d1, d2, d3, d4, d5] }
  | _ => none }
def fnPRFRoadRow : OpenClaim := { program := "ytknoomndofnnmaa", sum := "999f8145c7223f0d1ff6436ba6a68ca810ed91233caba4dd3ece050857244b43", func := "loop.example/pub-g03030/laws.FnPRFRoad", spec := "fnPRFRoad", unfollowed := true, recurses := true, apart := false }
def FnPRFRoadSaid : Prop := fnPRFRoadRow.holds Try.pinned (OpenSpec.ofChange fnPRFRoadSpec)

/-- ITS FALSE NEIGHBOUR: 'it returns false'. Refute it at one input. -/
def fnPRFRoadWrong : ChangeSpec := { name := "fnPRFRoad", fn := fun _ => fun
  | [d1, d2, d3, d4, d5] => { results := [.lit (.bool false)], args := [d1, d2, d3, d4, d5] }
  | _ => none }
def FnPRFRoadWrongFalsely : Prop := fnPRFRoadRow.holds Try.pinned (OpenSpec.ofChange fnPRFRoadWrong)

/-- 'laws.FnEarlySecret': WHATEVER THE INPUT: true; the input reads as it did. -/
def fnEarlySecretSpec : ChangeSpec := { name := "fnEarlySecret", fn := fun _ => fun
  | [d1, d2] => { results := [.lit (.bool true)], args := [d1, d2] }
  | _ => none }
def fnEarlySecretRow : OpenClaim := { program := "ytknoomndofnnmaa", sum := "999f8145c7223f0d1ff6436ba6a68ca810ed91233caba4dd3ece050857244b43", func := "loop.example/pub-g03030/laws.FnEarlySecret", spec := "fnEarlySecret", unfollowed := true, recurses := true, apart := false }
def FnEarlySecretSaid : Prop := fnEarlySecretRow.holds Try.pinned (OpenSpec.ofChange fnEarlySecretSpec)

/-- ITS FALSE NEIGHBOUR: 'it returns false'. Refute it at one input. -/
def fnEarlySecretWrong : ChangeSpec := { name := "fnEarlySecret", fn := fun _ => fun
  | [d1, d2] => { results := [.lit (.bool false)], args := [d1, d2] }
  | _ => none }
def FnEarlySecretWrongFalsely : Prop := fnEarlySecretRow.holds Try.pinned (OpenSpec.ofChange fnEarlySecretWrong)

/-- 'laws.FnExpandLabel': WHATEVER THE INPUT: true; the input reads as it did. -/
def fnExpandLabelSpec : ChangeSpec := { name := "fnExpandLabel", fn := fun _ => fun
  | [d1, d2, d3, d4, d5] => { results := [.lit (.bool true)], args := [d1, d2, d3, d4, d5] }
  | _ => none }
def fnExpandLabelRow : OpenClaim := { program := "ytknoomndofnnmaa", sum := "999f8145c7223f0d1ff6436ba6a68ca810ed91233caba4dd3ece050857244b43", func := "loop.example/pub-g03030/laws.FnExpandLabel", spec := "fnExpandLabel", unfollowed := true, recurses := true, apart := false }
def FnExpandLabelSaid : Prop := fnExpandLabelRow.holds Try.pinned (OpenSpec.ofChange fnExpandLabelSpec)

/-- ITS FALSE NEIGHBOUR: 'it returns false'. Refute it at one input. -/
def fnExpandLabelWrong : ChangeSpec := { name := "fnExpandLabel", fn := fun _ => fun
  | [d1, d2, d3, d4, d5] => { results := [.lit (.bool false)], args := [d1, d2, d3, d4, d5] }
  | _ => none }
def FnExpandLabelWrongFalsely : Prop := fnExpandLabelRow.holds Try.pinned (OpenSpec.ofChange fnExpandLabelWrong)

/-- 'laws.FnBinder': WHATEVER THE INPUT: true; the input reads as it did. -/
def fnBinderSpec : ChangeSpec := { name := "fnBinder", fn := fun _ => fun
  | [d1, d2] => { results := [.lit (.bool true)], args := [d1, d2] }
  | _ => none }
def fnBinderRow : OpenClaim := { program := "ytknoomndofnnmaa", sum := "999f8145c7223f0d1ff6436ba6a68ca810ed91233caba4dd3ece050857244b43", func := "loop.example/pub-g03030/laws.FnBinder", spec := "fnBinder", unfollowed := true, recurses := true, apart := false }
def FnBinderSaid : Prop := fnBinderRow.holds Try.pinned (OpenSpec.ofChange fnBinderSpec)

/-- ITS FALSE NEIGHBOUR: 'it returns false'. Refute it at one input. -/
def fnBinderWrong : ChangeSpec := { name := "fnBinder", fn := fun _ => fun
  | [d1, d2] => { results := [.lit (.bool false)], args := [d1, d2] }
  | _ => none }
def FnBinderWrongFalsely : Prop := fnBinderRow.holds Try.pinned (OpenSpec.ofChange fnBinderWrong)

/-- 'laws.FnHandshakeSecret': WHATEVER THE INPUT: true; the input reads as it did. -/
def fnHandshakeSecretSpec : ChangeSpec := { name := "fnHandshakeSecret", fn := fun _ => fun
  | [d1, d2, d3] => { results := [.lit (.bool true)], args := [d1, d2, d3] }
  | _ => none }
def fnHandshakeSecretRow : OpenClaim := { program := "ytknoomndofnnmaa", sum := "999f8145c7223f0d1ff6436ba6a68ca810ed91233caba4dd3ece050857244b43", func := "loop.example/pub-g03030/laws.FnHandshakeSecret", spec := "fnHandshakeSecret", unfollowed := true, recurses := true, apart := false }
def FnHandshakeSecretSaid : Prop := fnHandshakeSecretRow.holds Try.pinned (OpenSpec.ofChange fnHandshakeSecretSpec)

/-- ITS FALSE NEIGHBOUR: 'it returns false'. Refute it at one input. -/
def fnHandshakeSecretWrong : ChangeSpec := { name := "fnHandshakeSecret", fn := fun _ => fun
  | [d1, d2, d3] => { results := [.lit (.bool false)], args := [d1, d2, d3] }
  | _ => none }
def FnHandshakeSecretWrongFalsely : Prop := fnHandshakeSecretRow.holds Try.pinned (OpenSpec.ofChange fnHandshakeSecretWrong)

/-- 'laws.FnMasterSecret': WHATEVER THE INPUT: true; the input reads as it did. -/
def fnMasterSecretSpec : ChangeSpec := { name := "fnMasterSecret", fn := fun _ => fun
  | [d1, d2, d3] => { results := [.lit (.bool true)], args := [d1, d2, d3] }
  | _ => none }
def fnMasterSecretRow : OpenClaim := { program := "ytknoomndofnnmaa", sum := "999f8145c7223f0d1ff6436ba6a68ca810ed91233caba4dd3ece050857244b43", func := "loop.example/pub-g03030/laws.FnMasterSecret", spec := "fnMasterSecret", unfollowed := true, recurses := true, apart := false }
def FnMasterSecretSaid : Prop := fnMasterSecretRow.holds Try.pinned (OpenSpec.ofChange fnMasterSecretSpec)

/-- ITS FALSE NEIGHBOUR: 'it returns false'. Refute it at one input. -/
def fnMasterSecretWrong : ChangeSpec := { name := "fnMasterSecret", fn := fun _ => fun
  | [d1, d2, d3] => { results := [.lit (.bool false)], args := [d1, d2, d3] }
  | _ => none }
def FnMasterSecretWrongFalsely : Prop := fnMasterSecretRow.holds Try.pinned (OpenSpec.ofChange fnMasterSecretWrong)

/- THE SECOND FORM. 'bulk': how many values and letters a reading holds, each counted each time it is reached (what is shared counts as often as it is met; a slice's spare places count too). A statement '..UptoSaid' is the law's where the arguments, and the package variables that the reading takes, are together of bulk at most 1048576: NARROWER than '..Said'. Prove '..Said' where nothing that the law and all that it calls make is longer than what came in: it says more and counts as full. Else prove '..UptoSaid'. A law counts once. -/
mutual
def uptoBulk {H : Type} : DataW H → Nat
  | .lit (.string bytes) => bytes.length + 1
  | .lit _ => 1
  | .nil => 1
  | .ptr d => uptoBulk d + 1
  | .slice elems spare => uptoBulkAll elems + uptoBulkAll spare + 1
  | .agg parts => uptoBulkAll parts + 1
  | .iface _ d => uptoBulk d + 1
  | .map entries => uptoBulkEntries entries + 1
  | .held _ => 1
def uptoBulkAll {H : Type} : List (DataW H) → Nat
  | [] => 0
  | d :: r => uptoBulk d + uptoBulkAll r
def uptoBulkEntries {H : Type} : List (Lit × DataW H) → Nat
  | [] => 0
  | x :: r => uptoBulkEntry x + uptoBulkEntries r
def uptoBulkEntry {H : Type} : Lit × DataW H → Nat
  | (.string bytes, d) => bytes.length + uptoBulk d + 1
  | (_, d) => uptoBulk d + 1
 end
def uptoSmall : (H : Type) → List (DataW H) → Bool := fun _ ds => decide (uptoBulkAll ds ≤ 1048576)
def OpenSpec.upto (s : _root_.Go.ChangeSpec) : _root_.Go.OpenSpec := { _root_.Go.OpenSpec.ofChange s with cond := some uptoSmall }

/-- 'laws.FnPHash', WHERE WHAT IT READS IS OF BULK AT MOST 1048576: true; the input reads as it did. -/
def fnPHashUptoRow : OpenClaim := { program := "ytknoomndofnnmaa", sum := "999f8145c7223f0d1ff6436ba6a68ca810ed91233caba4dd3ece050857244b43", func := "loop.example/pub-g03030/laws.FnPHash", spec := "fnPHash", unfollowed := true, recurses := true, apart := false, narrowed := true }
def FnPHashUptoSaid : Prop := fnPHashUptoRow.holds Try.pinned (OpenSpec.upto fnPHashSpec)

/-- 'laws.FnPHashStep', WHERE WHAT IT READS IS OF BULK AT MOST 1048576: true; the input reads as it did. -/
def fnPHashStepUptoRow : OpenClaim := { program := "ytknoomndofnnmaa", sum := "999f8145c7223f0d1ff6436ba6a68ca810ed91233caba4dd3ece050857244b43", func := "loop.example/pub-g03030/laws.FnPHashStep", spec := "fnPHashStep", unfollowed := true, recurses := true, apart := false, narrowed := true }
def FnPHashStepUptoSaid : Prop := fnPHashStepUptoRow.holds Try.pinned (OpenSpec.upto fnPHashStepSpec)

/-- 'laws.FnPRF', WHERE WHAT IT READS IS OF BULK AT MOST 1048576: true; the input reads as it did. -/
def fnPRFUptoRow : OpenClaim := { program := "ytknoomndofnnmaa", sum := "999f8145c7223f0d1ff6436ba6a68ca810ed91233caba4dd3ece050857244b43", func := "loop.example/pub-g03030/laws.FnPRF", spec := "fnPRF", unfollowed := true, recurses := true, apart := false, narrowed := true }
def FnPRFUptoSaid : Prop := fnPRFUptoRow.holds Try.pinned (OpenSpec.upto fnPRFSpec)

/-- 'laws.FnPRFCut', WHERE WHAT IT READS IS OF BULK AT MOST 1048576: true; the input reads as it did. -/
def fnPRFCutUptoRow : OpenClaim := { program := "ytknoomndofnnmaa", sum := "999f8145c7223f0d1ff6436ba6a68ca810ed91233caba4dd3ece050857244b43", func := "loop.example/pub-g03030/laws.FnPRFCut", spec := "fnPRFCut", unfollowed := true, recurses := true, apart := false, narrowed := true }
def FnPRFCutUptoSaid : Prop := fnPRFCutUptoRow.holds Try.pinned (OpenSpec.upto fnPRFCutSpec)

/-- 'laws.FnPRFPrefix', WHERE WHAT IT READS IS OF BULK AT MOST 1048576: true; the input reads as it did. -/
def fnPRFPrefixUptoRow : OpenClaim := { program := "ytknoomndofnnmaa", sum := "999f8145c7223f0d1ff6436ba6a68ca810ed91233caba4dd3ece050857244b43", func := "loop.example/pub-g03030/laws.FnPRFPrefix", spec := "fnPRFPrefix", unfollowed := true, recurses := true, apart := false, narrowed := true }
def FnPRFPrefixUptoSaid : Prop := fnPRFPrefixUptoRow.holds Try.pinned (OpenSpec.upto fnPRFPrefixSpec)

/-- 'laws.FnMaster', WHERE WHAT IT READS IS OF BULK AT MOST 1048576: true; the input reads as it did. -/
def fnMasterUptoRow : OpenClaim := { program := "ytknoomndofnnmaa", sum := "999f8145c7223f0d1ff6436ba6a68ca810ed91233caba4dd3ece050857244b43", func := "loop.example/pub-g03030/laws.FnMaster", spec := "fnMaster", unfollowed := true, recurses := true, apart := false, narrowed := true }
def FnMasterUptoSaid : Prop := fnMasterUptoRow.holds Try.pinned (OpenSpec.upto fnMasterSpec)

/-- 'laws.FnExtract', WHERE WHAT IT READS IS OF BULK AT MOST 1048576: true; the input reads as it did. -/
def fnExtractUptoRow : OpenClaim := { program := "ytknoomndofnnmaa", sum := "999f8145c7223f0d1ff6436ba6a68ca810ed91233caba4dd3ece050857244b43", func := "loop.example/pub-g03030/laws.FnExtract", spec := "fnExtract", unfollowed := true, recurses := true, apart := false, narrowed := true }
def FnExtractUptoSaid : Prop := fnExtractUptoRow.holds Try.pinned (OpenSpec.upto fnExtractSpec)

/-- 'laws.FnMasterRoad', WHERE WHAT IT READS IS OF BULK AT MOST 1048576: true; the input reads as it did. -/
def fnMasterRoadUptoRow : OpenClaim := { program := "ytknoomndofnnmaa", sum := "999f8145c7223f0d1ff6436ba6a68ca810ed91233caba4dd3ece050857244b43", func := "loop.example/pub-g03030/laws.FnMasterRoad", spec := "fnMasterRoad", unfollowed := true, recurses := true, apart := false, narrowed := true }
def FnMasterRoadUptoSaid : Prop := fnMasterRoadUptoRow.holds Try.pinned (OpenSpec.upto fnMasterRoadSpec)

/-- 'laws.FnPRFRoad', WHERE WHAT IT READS IS OF BULK AT MOST 1048576: true; the input reads as it did. -/
def fnPRFRoadUptoRow : OpenClaim := { program := "ytknoomndofnnmaa", sum := "999f8145c7223f0d1ff6436ba6a68ca810ed91233caba4dd3ece050857244b43", func := "loop.example/pub-g03030/laws.FnPRFRoad", spec := "fnPRFRoad", unfollowed := true, recurses := true, apart := false, narrowed := true }
def FnPRFRoadUptoSaid : Prop := fnPRFRoadUptoRow.holds Try.pinned (OpenSpec.upto fnPRFRoadSpec)

/-- 'laws.FnEarlySecret', WHERE WHAT IT READS IS OF BULK AT MOST 1048576: true; the input reads as it did. -/
def fnEarlySecretUptoRow : OpenClaim := { program := "ytknoomndofnnmaa", sum := "999f8145c7223f0d1ff6436ba6a68ca810ed91233caba4dd3ece050857244b43", func := "loop.example/pub-g03030/laws.FnEarlySecret", spec := "fnEarlySecret", unfollowed := true, recurses := true, apart := false, narrowed := true }
def FnEarlySecretUptoSaid : Prop := fnEarlySecretUptoRow.holds Try.pinned (OpenSpec.upto fnEarlySecretSpec)

/-- 'laws.FnExpandLabel', WHERE WHAT IT READS IS OF BULK AT MOST 1048576: true; the input reads as it did. -/
def fnExpandLabelUptoRow : OpenClaim := { program := "ytknoomndofnnmaa", sum := "999f8145c7223f0d1ff6436ba6a68ca810ed91233caba4dd3ece050857244b43", func := "loop.example/pub-g03030/laws.FnExpandLabel", spec := "fnExpandLabel", unfollowed := true, recurses := true, apart := false, narrowed := true }
def FnExpandLabelUptoSaid : Prop := fnExpandLabelUptoRow.holds Try.pinned (OpenSpec.upto fnExpandLabelSpec)

/-- 'laws.FnBinder', WHERE WHAT IT READS IS OF BULK AT MOST 1048576: true; the input reads as it did. -/
def fnBinderUptoRow : OpenClaim := { program := "ytknoomndofnnmaa", sum := "999f8145c7223f0d1ff6436ba6a68ca810ed91233caba4dd3ece050857244b43", func := "loop.example/pub-g03030/laws.FnBinder", spec := "fnBinder", unfollowed := true, recurses := true, apart := false, narrowed := true }
def FnBinderUptoSaid : Prop := fnBinderUptoRow.holds Try.pinned (OpenSpec.upto fnBinderSpec)

/-- 'laws.FnHandshakeSecret', WHERE WHAT IT READS IS OF BULK AT MOST 1048576: true; the input reads as it did. -/
def fnHandshakeSecretUptoRow : OpenClaim := { program := "ytknoomndofnnmaa", sum := "999f8145c7223f0d1ff6436ba6a68ca810ed91233caba4dd3ece050857244b43", func := "loop.example/pub-g03030/laws.FnHandshakeSecret", spec := "fnHandshakeSecret", unfollowed := true, recurses := true, apart := false, narrowed := true }
def FnHandshakeSecretUptoSaid : Prop := fnHandshakeSecretUptoRow.holds Try.pinned (OpenSpec.upto fnHandshakeSecretSpec)

/-- 'laws.FnMasterSecret', WHERE WHAT IT READS IS OF BULK AT MOST 1048576: true; the input reads as it did. -/
def fnMasterSecretUptoRow : OpenClaim := { program := "ytknoomndofnnmaa", sum := "999f8145c7223f0d1ff6436ba6a68ca810ed91233caba4dd3ece050857244b43", func := "loop.example/pub-g03030/laws.FnMasterSecret", spec := "fnMasterSecret", unfollowed := true, recurses := true, apart := false, narrowed := true }
def FnMasterSecretUptoSaid : Prop := fnMasterSecretUptoRow.holds Try.pinned (OpenSpec.upto fnMasterSecretSpec)

end Rows
end Go.Proofs.Ytknoomndofnnmaa
