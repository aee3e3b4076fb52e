/-
  NARROWER THAN 'FOR EVERY INPUT', by the rows' own cells (each row's printed sentence says how): FnSum: laid · FnZeros: laid · FnExported: laid · FnSecretsRoad: laid · FnDeriveSecret: laid · FnDeriveRoad: laid · FnEarlyTraffic: laid · FnEarlyExported: laid · FnClientHandshake: laid · FnServerHandshake: laid · FnClientTraffic: laid · FnResumption: laid · FnServerTraffic: laid.
  DERIVED. THE GIVEN ROWS OF THIS SEAT. 13 by the template 'for every input the law returns true; each argument reads behind the call as it read before'; 0 by the template 'total and deterministic' (their statements: YtknoomndofnnmaaDoorTotals.lean).
  GIVEN WITH THE SEED: the statements are not yours to turn. If you find one false, say at which input.
  Laid BY PROGRAM, IN A SANDBOX (cutbox-rows.mjs): the forced cells as the released guide's own fill.sh prints them over the translation 9447e499cbbf9cf1… (all of the seat's roots in one cut). By AI agents, Wed Nov 11 2026. No macro, syntax, notation, axiom, sorry.
-/
import Derived.Test.YtknoomndofnnmaaDoorChecked
import GoSem.Claim
import GoSem.ClaimJoined
import GoSem.ClaimMapViews
import Derived.JoinedTies
import Derived.KernelRfl
namespace Go.Proofs.YtknoomndofnnmaaDoor
/- THE CELL 'sum', in the pinned program and in every row, IS THE sha256 OF THE DUMP (.gsa) THAT YtknoomndofnnmaaDoorProg.lean LOADS. Nothing in Lean hashes anything: it is a label: what it is worth is what the hold of that sum in a sandbox is worth. -/
noncomputable def Tryd.pinned : Pinned := { name := "ytknoomndofnnmaadoor", sum := "9447e499cbbf9cf1af7769b93d7040ec283b306d0cbdb7fe11af88c63cab9870", checked := Tryd.checked }
namespace Rows
def none {H : Type} : Left H := { results := [], args := [] }

/- WHAT THE LISTED PACKAGE-LEVEL VARIABLES READ AS WHEN THE CALL BEGINS. Each datum BY PROGRAM (the guide's laid-datum.mjs) off the statement by which the dump's own 'gosem.cut.vars' lays the variable. In a bare row this is a premise. The card (YtknoomndofnnmaaDoorCards.lean) ties it to the program's text. -/
def laid_loop_example_pub_g03030_pub_sha256_K {H : Type} : DataW H := .agg [.lit (.int .u32 1116352408), .lit (.int .u32 1899447441), .lit (.int .u32 3049323471), .lit (.int .u32 3921009573), .lit (.int .u32 961987163), .lit (.int .u32 1508970993), .lit (.int .u32 2453635748), .lit (.int .u32 2870763221), .lit (.int .u32 3624381080), .lit (.int .u32 310598401), .lit (.int .u32 607225278), .lit (.int .u32 1426881987), .lit (.int .u32 1925078388), .lit (.int .u32 2162078206), .lit (.int .u32 2614888103), .lit (.int .u32 3248222580), .lit (.int .u32 3835390401), .lit (.int .u32 4022224774), .lit (.int .u32 264347078), .lit (.int .u32 604807628), .lit (.int .u32 770255983), .lit (.int .u32 1249150122), .lit (.int .u32 1555081692), .lit (.int .u32 1996064986), .lit (.int .u32 2554220882), .lit (.int .u32 2821834349), .lit (.int .u32 2952996808), .lit (.int .u32 3210313671), .lit (.int .u32 3336571891), .lit (.int .u32 3584528711), .lit (.int .u32 113926993), .lit (.int .u32 338241895), .lit (.int .u32 666307205), .lit (.int .u32 773529912), .lit (.int .u32 1294757372), .lit (.int .u32 1396182291), .lit (.int .u32 1695183700), .lit (.int .u32 1986661051), .lit (.int .u32 2177026350), .lit (.int .u32 2456956037), .lit (.int .u32 2730485921), .lit (.int .u32 2820302411), .lit (.int .u32 3259730800), .lit (.int .u32 3345764771), .lit (.int .u32 3516065817), .lit (.int .u32 3600352804), .lit (.int .u32 4094571909), .lit (.int .u32 275423344), .lit (.int .u32 430227734), .lit (.int .u32 506948616), .lit (.int .u32 659060556), .lit (.int .u32 883997877), .lit (.int .u32 958139571), .lit (.int .u32 1322822218), .lit (.int .u32 1537002063), .lit (.int .u32 1747873779), .lit (.int .u32 1955562222), .lit (.int .u32 2024104815), .lit (.int .u32 2227730452), .lit (.int .u32 2361852424), .lit (.int .u32 2428436474), .lit (.int .u32 2756734187), .lit (.int .u32 3204031479), .lit (.int .u32 3329325298)]

/-- 'laws.FnSum': WHATEVER THE INPUT: true; the input reads as it did. -/
def fnSumSpec : ChangeSpec := { name := "fnSum", vars := ["loop.example/pub-g03030/pub/sha256._K"], fn := fun _ => fun
  | [d1, d2, g1] => { results := [.lit (.bool true)], args := [d1, d2], vars := [g1] }
  | _ => none }
def fnSumRow : OpenClaim := { program := "ytknoomndofnnmaadoor", sum := "9447e499cbbf9cf1af7769b93d7040ec283b306d0cbdb7fe11af88c63cab9870", func := "loop.example/pub-g03030/laws.FnSum", spec := "fnSum", named := ["loop.example/pub-g03030/pub/sha256._K"], apart := false, laid := [("loop.example/pub-g03030/pub/sha256._K", laid_loop_example_pub_g03030_pub_sha256_K)] }
def FnSumSaid : Prop := fnSumRow.holds Tryd.pinned (OpenSpec.ofChange fnSumSpec)

/-- ITS FALSE NEIGHBOUR: 'it returns false'. Refute it at one input. -/
def fnSumWrong : ChangeSpec := { name := "fnSum", vars := ["loop.example/pub-g03030/pub/sha256._K"], fn := fun _ => fun
  | [d1, d2, g1] => { results := [.lit (.bool false)], args := [d1, d2], vars := [g1] }
  | _ => none }
def FnSumWrongFalsely : Prop := fnSumRow.holds Tryd.pinned (OpenSpec.ofChange fnSumWrong)

/-- 'laws.FnZeros': WHATEVER THE INPUT: true; the input reads as it did. -/
def fnZerosSpec : ChangeSpec := { name := "fnZeros", vars := ["loop.example/pub-g03030/pub/sha256._K"], fn := fun _ => fun
  | [d1, d2, d3, d4, g1] => { results := [.lit (.bool true)], args := [d1, d2, d3, d4], vars := [g1] }
  | _ => none }
def fnZerosRow : OpenClaim := { program := "ytknoomndofnnmaadoor", sum := "9447e499cbbf9cf1af7769b93d7040ec283b306d0cbdb7fe11af88c63cab9870", func := "loop.example/pub-g03030/laws.FnZeros", spec := "fnZeros", unfollowed := true, recurses := true, named := ["loop.example/pub-g03030/pub/sha256._K"], apart := false, laid := [("loop.example/pub-g03030/pub/sha256._K", laid_loop_example_pub_g03030_pub_sha256_K)] }
def FnZerosSaid : Prop := fnZerosRow.holds Tryd.pinned (OpenSpec.ofChange fnZerosSpec)

/-- ITS FALSE NEIGHBOUR: 'it returns false'. Refute it at one input. -/
def fnZerosWrong : ChangeSpec := { name := "fnZeros", vars := ["loop.example/pub-g03030/pub/sha256._K"], fn := fun _ => fun
  | [d1, d2, d3, d4, g1] => { results := [.lit (.bool false)], args := [d1, d2, d3, d4], vars := [g1] }
  | _ => none }
def FnZerosWrongFalsely : Prop := fnZerosRow.holds Tryd.pinned (OpenSpec.ofChange fnZerosWrong)

/-- 'laws.FnExported': WHATEVER THE INPUT: true; the input reads as it did. -/
def fnExportedSpec : ChangeSpec := { name := "fnExported", vars := ["loop.example/pub-g03030/pub/sha256._K"], fn := fun _ => fun
  | [d1, d2, d3, d4, d5, d6, d7, g1] => { results := [.lit (.bool true)], args := [d1, d2, d3, d4, d5, d6, d7], vars := [g1] }
  | _ => none }
def fnExportedRow : OpenClaim := { program := "ytknoomndofnnmaadoor", sum := "9447e499cbbf9cf1af7769b93d7040ec283b306d0cbdb7fe11af88c63cab9870", func := "loop.example/pub-g03030/laws.FnExported", spec := "fnExported", unfollowed := true, recurses := true, named := ["loop.example/pub-g03030/pub/sha256._K"], apart := false, laid := [("loop.example/pub-g03030/pub/sha256._K", laid_loop_example_pub_g03030_pub_sha256_K)] }
def FnExportedSaid : Prop := fnExportedRow.holds Tryd.pinned (OpenSpec.ofChange fnExportedSpec)

/-- ITS FALSE NEIGHBOUR: 'it returns false'. Refute it at one input. -/
def fnExportedWrong : ChangeSpec := { name := "fnExported", vars := ["loop.example/pub-g03030/pub/sha256._K"], fn := fun _ => fun
  | [d1, d2, d3, d4, d5, d6, d7, g1] => { results := [.lit (.bool false)], args := [d1, d2, d3, d4, d5, d6, d7], vars := [g1] }
  | _ => none }
def FnExportedWrongFalsely : Prop := fnExportedRow.holds Tryd.pinned (OpenSpec.ofChange fnExportedWrong)

/-- 'laws.FnSecretsRoad': WHATEVER THE INPUT: true; the input reads as it did. -/
def fnSecretsRoadSpec : ChangeSpec := { name := "fnSecretsRoad", vars := ["loop.example/pub-g03030/pub/sha256._K"], fn := fun _ => fun
  | [d1, d2, d3, d4, g1] => { results := [.lit (.bool true)], args := [d1, d2, d3, d4], vars := [g1] }
  | _ => none }
def fnSecretsRoadRow : OpenClaim := { program := "ytknoomndofnnmaadoor", sum := "9447e499cbbf9cf1af7769b93d7040ec283b306d0cbdb7fe11af88c63cab9870", func := "loop.example/pub-g03030/laws.FnSecretsRoad", spec := "fnSecretsRoad", unfollowed := true, recurses := true, named := ["loop.example/pub-g03030/pub/sha256._K"], apart := false, laid := [("loop.example/pub-g03030/pub/sha256._K", laid_loop_example_pub_g03030_pub_sha256_K)] }
def FnSecretsRoadSaid : Prop := fnSecretsRoadRow.holds Tryd.pinned (OpenSpec.ofChange fnSecretsRoadSpec)

/-- ITS FALSE NEIGHBOUR: 'it returns false'. Refute it at one input. -/
def fnSecretsRoadWrong : ChangeSpec := { name := "fnSecretsRoad", vars := ["loop.example/pub-g03030/pub/sha256._K"], fn := fun _ => fun
  | [d1, d2, d3, d4, g1] => { results := [.lit (.bool false)], args := [d1, d2, d3, d4], vars := [g1] }
  | _ => none }
def FnSecretsRoadWrongFalsely : Prop := fnSecretsRoadRow.holds Tryd.pinned (OpenSpec.ofChange fnSecretsRoadWrong)

/-- 'laws.FnDeriveSecret': WHATEVER THE INPUT: true; the input reads as it did. -/
def fnDeriveSecretSpec : ChangeSpec := { name := "fnDeriveSecret", vars := ["loop.example/pub-g03030/pub/sha256._K"], fn := fun _ => fun
  | [d1, d2, d3, d4, g1] => { results := [.lit (.bool true)], args := [d1, d2, d3, d4], vars := [g1] }
  | _ => none }
def fnDeriveSecretRow : OpenClaim := { program := "ytknoomndofnnmaadoor", sum := "9447e499cbbf9cf1af7769b93d7040ec283b306d0cbdb7fe11af88c63cab9870", func := "loop.example/pub-g03030/laws.FnDeriveSecret", spec := "fnDeriveSecret", unfollowed := true, recurses := true, named := ["loop.example/pub-g03030/pub/sha256._K"], apart := false, laid := [("loop.example/pub-g03030/pub/sha256._K", laid_loop_example_pub_g03030_pub_sha256_K)] }
def FnDeriveSecretSaid : Prop := fnDeriveSecretRow.holds Tryd.pinned (OpenSpec.ofChange fnDeriveSecretSpec)

/-- ITS FALSE NEIGHBOUR: 'it returns false'. Refute it at one input. -/
def fnDeriveSecretWrong : ChangeSpec := { name := "fnDeriveSecret", vars := ["loop.example/pub-g03030/pub/sha256._K"], fn := fun _ => fun
  | [d1, d2, d3, d4, g1] => { results := [.lit (.bool false)], args := [d1, d2, d3, d4], vars := [g1] }
  | _ => none }
def FnDeriveSecretWrongFalsely : Prop := fnDeriveSecretRow.holds Tryd.pinned (OpenSpec.ofChange fnDeriveSecretWrong)

/-- 'laws.FnDeriveRoad': WHATEVER THE INPUT: true; the input reads as it did. -/
def fnDeriveRoadSpec : ChangeSpec := { name := "fnDeriveRoad", vars := ["loop.example/pub-g03030/pub/sha256._K"], fn := fun _ => fun
  | [d1, d2, d3, d4, g1] => { results := [.lit (.bool true)], args := [d1, d2, d3, d4], vars := [g1] }
  | _ => none }
def fnDeriveRoadRow : OpenClaim := { program := "ytknoomndofnnmaadoor", sum := "9447e499cbbf9cf1af7769b93d7040ec283b306d0cbdb7fe11af88c63cab9870", func := "loop.example/pub-g03030/laws.FnDeriveRoad", spec := "fnDeriveRoad", unfollowed := true, recurses := true, named := ["loop.example/pub-g03030/pub/sha256._K"], apart := false, laid := [("loop.example/pub-g03030/pub/sha256._K", laid_loop_example_pub_g03030_pub_sha256_K)] }
def FnDeriveRoadSaid : Prop := fnDeriveRoadRow.holds Tryd.pinned (OpenSpec.ofChange fnDeriveRoadSpec)

/-- ITS FALSE NEIGHBOUR: 'it returns false'. Refute it at one input. -/
def fnDeriveRoadWrong : ChangeSpec := { name := "fnDeriveRoad", vars := ["loop.example/pub-g03030/pub/sha256._K"], fn := fun _ => fun
  | [d1, d2, d3, d4, g1] => { results := [.lit (.bool false)], args := [d1, d2, d3, d4], vars := [g1] }
  | _ => none }
def FnDeriveRoadWrongFalsely : Prop := fnDeriveRoadRow.holds Tryd.pinned (OpenSpec.ofChange fnDeriveRoadWrong)

/-- 'laws.FnEarlyTraffic': WHATEVER THE INPUT: true; the input reads as it did. -/
def fnEarlyTrafficSpec : ChangeSpec := { name := "fnEarlyTraffic", vars := ["loop.example/pub-g03030/pub/sha256._K"], fn := fun _ => fun
  | [d1, d2, d3, g1] => { results := [.lit (.bool true)], args := [d1, d2, d3], vars := [g1] }
  | _ => none }
def fnEarlyTrafficRow : OpenClaim := { program := "ytknoomndofnnmaadoor", sum := "9447e499cbbf9cf1af7769b93d7040ec283b306d0cbdb7fe11af88c63cab9870", func := "loop.example/pub-g03030/laws.FnEarlyTraffic", spec := "fnEarlyTraffic", unfollowed := true, recurses := true, named := ["loop.example/pub-g03030/pub/sha256._K"], apart := false, laid := [("loop.example/pub-g03030/pub/sha256._K", laid_loop_example_pub_g03030_pub_sha256_K)] }
def FnEarlyTrafficSaid : Prop := fnEarlyTrafficRow.holds Tryd.pinned (OpenSpec.ofChange fnEarlyTrafficSpec)

/-- ITS FALSE NEIGHBOUR: 'it returns false'. Refute it at one input. -/
def fnEarlyTrafficWrong : ChangeSpec := { name := "fnEarlyTraffic", vars := ["loop.example/pub-g03030/pub/sha256._K"], fn := fun _ => fun
  | [d1, d2, d3, g1] => { results := [.lit (.bool false)], args := [d1, d2, d3], vars := [g1] }
  | _ => none }
def FnEarlyTrafficWrongFalsely : Prop := fnEarlyTrafficRow.holds Tryd.pinned (OpenSpec.ofChange fnEarlyTrafficWrong)

/-- 'laws.FnEarlyExported': WHATEVER THE INPUT: true; the input reads as it did. -/
def fnEarlyExportedSpec : ChangeSpec := { name := "fnEarlyExported", vars := ["loop.example/pub-g03030/pub/sha256._K"], fn := fun _ => fun
  | [d1, d2, d3, d4, d5, d6, g1] => { results := [.lit (.bool true)], args := [d1, d2, d3, d4, d5, d6], vars := [g1] }
  | _ => none }
def fnEarlyExportedRow : OpenClaim := { program := "ytknoomndofnnmaadoor", sum := "9447e499cbbf9cf1af7769b93d7040ec283b306d0cbdb7fe11af88c63cab9870", func := "loop.example/pub-g03030/laws.FnEarlyExported", spec := "fnEarlyExported", unfollowed := true, recurses := true, named := ["loop.example/pub-g03030/pub/sha256._K"], apart := false, laid := [("loop.example/pub-g03030/pub/sha256._K", laid_loop_example_pub_g03030_pub_sha256_K)] }
def FnEarlyExportedSaid : Prop := fnEarlyExportedRow.holds Tryd.pinned (OpenSpec.ofChange fnEarlyExportedSpec)

/-- ITS FALSE NEIGHBOUR: 'it returns false'. Refute it at one input. -/
def fnEarlyExportedWrong : ChangeSpec := { name := "fnEarlyExported", vars := ["loop.example/pub-g03030/pub/sha256._K"], fn := fun _ => fun
  | [d1, d2, d3, d4, d5, d6, g1] => { results := [.lit (.bool false)], args := [d1, d2, d3, d4, d5, d6], vars := [g1] }
  | _ => none }
def FnEarlyExportedWrongFalsely : Prop := fnEarlyExportedRow.holds Tryd.pinned (OpenSpec.ofChange fnEarlyExportedWrong)

/-- 'laws.FnClientHandshake': WHATEVER THE INPUT: true; the input reads as it did. -/
def fnClientHandshakeSpec : ChangeSpec := { name := "fnClientHandshake", vars := ["loop.example/pub-g03030/pub/sha256._K"], fn := fun _ => fun
  | [d1, d2, d3, d4, g1] => { results := [.lit (.bool true)], args := [d1, d2, d3, d4], vars := [g1] }
  | _ => none }
def fnClientHandshakeRow : OpenClaim := { program := "ytknoomndofnnmaadoor", sum := "9447e499cbbf9cf1af7769b93d7040ec283b306d0cbdb7fe11af88c63cab9870", func := "loop.example/pub-g03030/laws.FnClientHandshake", spec := "fnClientHandshake", unfollowed := true, recurses := true, named := ["loop.example/pub-g03030/pub/sha256._K"], apart := false, laid := [("loop.example/pub-g03030/pub/sha256._K", laid_loop_example_pub_g03030_pub_sha256_K)] }
def FnClientHandshakeSaid : Prop := fnClientHandshakeRow.holds Tryd.pinned (OpenSpec.ofChange fnClientHandshakeSpec)

/-- ITS FALSE NEIGHBOUR: 'it returns false'. Refute it at one input. -/
def fnClientHandshakeWrong : ChangeSpec := { name := "fnClientHandshake", vars := ["loop.example/pub-g03030/pub/sha256._K"], fn := fun _ => fun
  | [d1, d2, d3, d4, g1] => { results := [.lit (.bool false)], args := [d1, d2, d3, d4], vars := [g1] }
  | _ => none }
def FnClientHandshakeWrongFalsely : Prop := fnClientHandshakeRow.holds Tryd.pinned (OpenSpec.ofChange fnClientHandshakeWrong)

/-- 'laws.FnServerHandshake': WHATEVER THE INPUT: true; the input reads as it did. -/
def fnServerHandshakeSpec : ChangeSpec := { name := "fnServerHandshake", vars := ["loop.example/pub-g03030/pub/sha256._K"], fn := fun _ => fun
  | [d1, d2, d3, d4, g1] => { results := [.lit (.bool true)], args := [d1, d2, d3, d4], vars := [g1] }
  | _ => none }
def fnServerHandshakeRow : OpenClaim := { program := "ytknoomndofnnmaadoor", sum := "9447e499cbbf9cf1af7769b93d7040ec283b306d0cbdb7fe11af88c63cab9870", func := "loop.example/pub-g03030/laws.FnServerHandshake", spec := "fnServerHandshake", unfollowed := true, recurses := true, named := ["loop.example/pub-g03030/pub/sha256._K"], apart := false, laid := [("loop.example/pub-g03030/pub/sha256._K", laid_loop_example_pub_g03030_pub_sha256_K)] }
def FnServerHandshakeSaid : Prop := fnServerHandshakeRow.holds Tryd.pinned (OpenSpec.ofChange fnServerHandshakeSpec)

/-- ITS FALSE NEIGHBOUR: 'it returns false'. Refute it at one input. -/
def fnServerHandshakeWrong : ChangeSpec := { name := "fnServerHandshake", vars := ["loop.example/pub-g03030/pub/sha256._K"], fn := fun _ => fun
  | [d1, d2, d3, d4, g1] => { results := [.lit (.bool false)], args := [d1, d2, d3, d4], vars := [g1] }
  | _ => none }
def FnServerHandshakeWrongFalsely : Prop := fnServerHandshakeRow.holds Tryd.pinned (OpenSpec.ofChange fnServerHandshakeWrong)

/-- 'laws.FnClientTraffic': WHATEVER THE INPUT: true; the input reads as it did. -/
def fnClientTrafficSpec : ChangeSpec := { name := "fnClientTraffic", vars := ["loop.example/pub-g03030/pub/sha256._K"], fn := fun _ => fun
  | [d1, d2, d3, d4, g1] => { results := [.lit (.bool true)], args := [d1, d2, d3, d4], vars := [g1] }
  | _ => none }
def fnClientTrafficRow : OpenClaim := { program := "ytknoomndofnnmaadoor", sum := "9447e499cbbf9cf1af7769b93d7040ec283b306d0cbdb7fe11af88c63cab9870", func := "loop.example/pub-g03030/laws.FnClientTraffic", spec := "fnClientTraffic", unfollowed := true, recurses := true, named := ["loop.example/pub-g03030/pub/sha256._K"], apart := false, laid := [("loop.example/pub-g03030/pub/sha256._K", laid_loop_example_pub_g03030_pub_sha256_K)] }
def FnClientTrafficSaid : Prop := fnClientTrafficRow.holds Tryd.pinned (OpenSpec.ofChange fnClientTrafficSpec)

/-- ITS FALSE NEIGHBOUR: 'it returns false'. Refute it at one input. -/
def fnClientTrafficWrong : ChangeSpec := { name := "fnClientTraffic", vars := ["loop.example/pub-g03030/pub/sha256._K"], fn := fun _ => fun
  | [d1, d2, d3, d4, g1] => { results := [.lit (.bool false)], args := [d1, d2, d3, d4], vars := [g1] }
  | _ => none }
def FnClientTrafficWrongFalsely : Prop := fnClientTrafficRow.holds Tryd.pinned (OpenSpec.ofChange fnClientTrafficWrong)

/-- 'laws.FnResumption': WHATEVER THE INPUT: true; the input reads as it did. -/
def fnResumptionSpec : ChangeSpec := { name := "fnResumption", vars := ["loop.example/pub-g03030/pub/sha256._K"], fn := fun _ => fun
  | [d1, d2, d3, d4, g1] => { results := [.lit (.bool true)], args := [d1, d2, d3, d4], vars := [g1] }
  | _ => none }
def fnResumptionRow : OpenClaim := { program := "ytknoomndofnnmaadoor", sum := "9447e499cbbf9cf1af7769b93d7040ec283b306d0cbdb7fe11af88c63cab9870", func := "loop.example/pub-g03030/laws.FnResumption", spec := "fnResumption", unfollowed := true, recurses := true, named := ["loop.example/pub-g03030/pub/sha256._K"], apart := false, laid := [("loop.example/pub-g03030/pub/sha256._K", laid_loop_example_pub_g03030_pub_sha256_K)] }
def FnResumptionSaid : Prop := fnResumptionRow.holds Tryd.pinned (OpenSpec.ofChange fnResumptionSpec)

/-- ITS FALSE NEIGHBOUR: 'it returns false'. Refute it at one input. -/
def fnResumptionWrong : ChangeSpec := { name := "fnResumption", vars := ["loop.example/pub-g03030/pub/sha256._K"], fn := fun _ => fun
  | [d1, d2, d3, d4, g1] => { results := [.lit (.bool false)], args := [d1, d2, d3, d4], vars := [g1] }
  | _ => none }
def FnResumptionWrongFalsely : Prop := fnResumptionRow.holds Tryd.pinned (OpenSpec.ofChange fnResumptionWrong)

/-- 'laws.FnServerTraffic': WHATEVER THE INPUT: true; the input reads as it did. -/
def fnServerTrafficSpec : ChangeSpec := { name := "fnServerTraffic", vars := ["loop.example/pub-g03030/pub/sha256._K"], fn := fun _ => fun
  | [d1, d2, d3, d4, g1] => { results := [.lit (.bool true)], args := [d1, d2, d3, d4], vars := [g1] }
  | _ => none }
def fnServerTrafficRow : OpenClaim := { program := "ytknoomndofnnmaadoor", sum := "9447e499cbbf9cf1af7769b93d7040ec283b306d0cbdb7fe11af88c63cab9870", func := "loop.example/pub-g03030/laws.FnServerTraffic", spec := "fnServerTraffic", unfollowed := true, recurses := true, named := ["loop.example/pub-g03030/pub/sha256._K"], apart := false, laid := [("loop.example/pub-g03030/pub/sha256._K", laid_loop_example_pub_g03030_pub_sha256_K)] }
def FnServerTrafficSaid : Prop := fnServerTrafficRow.holds Tryd.pinned (OpenSpec.ofChange fnServerTrafficSpec)

/-- ITS FALSE NEIGHBOUR: 'it returns false'. Refute it at one input. -/
def fnServerTrafficWrong : ChangeSpec := { name := "fnServerTraffic", vars := ["loop.example/pub-g03030/pub/sha256._K"], fn := fun _ => fun
  | [d1, d2, d3, d4, g1] => { results := [.lit (.bool false)], args := [d1, d2, d3, d4], vars := [g1] }
  | _ => none }
def FnServerTrafficWrongFalsely : Prop := fnServerTrafficRow.holds Tryd.pinned (OpenSpec.ofChange fnServerTrafficWrong)

/- THE SECOND FORM. 'bulk': how many values and letters a reading holds, each counted each time it is reached (what is shared counts as often as it is met; a slice's spare places count too). A statement '..UptoSaid' is the law's where the arguments, and the package variables that the reading takes, are together of bulk at most 1048576: NARROWER than '..Said'. Prove '..Said' where nothing that the law and all that it calls make is longer than what came in: it says more and counts as full. Else prove '..UptoSaid'. A law counts once. -/
mutual
def uptoBulk {H : Type} : DataW H → Nat
  | .lit (.string bytes) => bytes.length + 1
  | .lit _ => 1
  | .nil => 1
  | .ptr d => uptoBulk d + 1
  | .slice elems spare => uptoBulkAll elems + uptoBulkAll spare + 1
  | .agg parts => uptoBulkAll parts + 1
  | .iface _ d => uptoBulk d + 1
  | .map entries => uptoBulkEntries entries + 1
  | .held _ => 1
def uptoBulkAll {H : Type} : List (DataW H) → Nat
  | [] => 0
  | d :: r => uptoBulk d + uptoBulkAll r
def uptoBulkEntries {H : Type} : List (Lit × DataW H) → Nat
  | [] => 0
  | x :: r => uptoBulkEntry x + uptoBulkEntries r
def uptoBulkEntry {H : Type} : Lit × DataW H → Nat
  | (.string bytes, d) => bytes.length + uptoBulk d + 1
  | (_, d) => uptoBulk d + 1
 end
def uptoSmall : (H : Type) → List (DataW H) → Bool := fun _ ds => decide (uptoBulkAll ds ≤ 1048576)
def OpenSpec.upto (s : _root_.Go.ChangeSpec) : _root_.Go.OpenSpec := { _root_.Go.OpenSpec.ofChange s with cond := some uptoSmall }

/-- 'laws.FnSum', WHERE WHAT IT READS IS OF BULK AT MOST 1048576: true; the input reads as it did. -/
def fnSumUptoRow : OpenClaim := { program := "ytknoomndofnnmaadoor", sum := "9447e499cbbf9cf1af7769b93d7040ec283b306d0cbdb7fe11af88c63cab9870", func := "loop.example/pub-g03030/laws.FnSum", spec := "fnSum", named := ["loop.example/pub-g03030/pub/sha256._K"], apart := false, laid := [("loop.example/pub-g03030/pub/sha256._K", laid_loop_example_pub_g03030_pub_sha256_K)], narrowed := true }
def FnSumUptoSaid : Prop := fnSumUptoRow.holds Tryd.pinned (OpenSpec.upto fnSumSpec)

/-- 'laws.FnZeros', WHERE WHAT IT READS IS OF BULK AT MOST 1048576: true; the input reads as it did. -/
def fnZerosUptoRow : OpenClaim := { program := "ytknoomndofnnmaadoor", sum := "9447e499cbbf9cf1af7769b93d7040ec283b306d0cbdb7fe11af88c63cab9870", func := "loop.example/pub-g03030/laws.FnZeros", spec := "fnZeros", unfollowed := true, recurses := true, named := ["loop.example/pub-g03030/pub/sha256._K"], apart := false, laid := [("loop.example/pub-g03030/pub/sha256._K", laid_loop_example_pub_g03030_pub_sha256_K)], narrowed := true }
def FnZerosUptoSaid : Prop := fnZerosUptoRow.holds Tryd.pinned (OpenSpec.upto fnZerosSpec)

/-- 'laws.FnExported', WHERE WHAT IT READS IS OF BULK AT MOST 1048576: true; the input reads as it did. -/
def fnExportedUptoRow : OpenClaim := { program := "ytknoomndofnnmaadoor", sum := "9447e499cbbf9cf1af7769b93d7040ec283b306d0cbdb7fe11af88c63cab9870", func := "loop.example/pub-g03030/laws.FnExported", spec := "fnExported", unfollowed := true, recurses := true, named := ["loop.example/pub-g03030/pub/sha256._K"], apart := false, laid := [("loop.example/pub-g03030/pub/sha256._K", laid_loop_example_pub_g03030_pub_sha256_K)], narrowed := true }
def FnExportedUptoSaid : Prop := fnExportedUptoRow.holds Tryd.pinned (OpenSpec.upto fnExportedSpec)

/-- 'laws.FnSecretsRoad', WHERE WHAT IT READS IS OF BULK AT MOST 1048576: true; the input reads as it did. -/
def fnSecretsRoadUptoRow : OpenClaim := { program := "ytknoomndofnnmaadoor", sum := "9447e499cbbf9cf1af7769b93d7040ec283b306d0cbdb7fe11af88c63cab9870", func := "loop.example/pub-g03030/laws.FnSecretsRoad", spec := "fnSecretsRoad", unfollowed := true, recurses := true, named := ["loop.example/pub-g03030/pub/sha256._K"], apart := false, laid := [("loop.example/pub-g03030/pub/sha256._K", laid_loop_example_pub_g03030_pub_sha256_K)], narrowed := true }
def FnSecretsRoadUptoSaid : Prop := fnSecretsRoadUptoRow.holds Tryd.pinned (OpenSpec.upto fnSecretsRoadSpec)

/-- 'laws.FnDeriveSecret', WHERE WHAT IT READS IS OF BULK AT MOST 1048576: true; the input reads as it did. -/
def fnDeriveSecretUptoRow : OpenClaim := { program := "ytknoomndofnnmaadoor", sum := "9447e499cbbf9cf1af7769b93d7040ec283b306d0cbdb7fe11af88c63cab9870", func := "loop.example/pub-g03030/laws.FnDeriveSecret", spec := "fnDeriveSecret", unfollowed := true, recurses := true, named := ["loop.example/pub-g03030/pub/sha256._K"], apart := false, laid := [("loop.example/pub-g03030/pub/sha256._K", laid_loop_example_pub_g03030_pub_sha256_K)], narrowed := true }
def FnDeriveSecretUptoSaid : Prop := fnDeriveSecretUptoRow.holds Tryd.pinned (OpenSpec.upto fnDeriveSecretSpec)

/-- 'laws.FnDeriveRoad', WHERE WHAT IT READS IS OF BULK AT MOST 1048576: true; the input reads as it did. -/
def fnDeriveRoadUptoRow : OpenClaim := { program := "ytknoomndofnnmaadoor", sum := "9447e499cbbf9cf1af7769b93d7040ec283b306d0cbdb7fe11af88c63cab9870", func := "loop.example/pub-g03030/laws.FnDeriveRoad", spec := "fnDeriveRoad", unfollowed := true, recurses := true, named := ["loop.example/pub-g03030/pub/sha256._K"], apart := false, laid := [("loop.example/pub-g03030/pub/sha256._K", laid_loop_example_pub_g03030_pub_sha256_K)], narrowed := true }
def FnDeriveRoadUptoSaid : Prop := fnDeriveRoadUptoRow.holds Tryd.pinned (OpenSpec.upto fnDeriveRoadSpec)

/-- 'laws.FnEarlyTraffic', WHERE WHAT IT READS IS OF BULK AT MOST 1048576: true; the input reads as it did. -/
def fnEarlyTrafficUptoRow : OpenClaim := { program := "ytknoomndofnnmaadoor", sum := "9447e499cbbf9cf1af7769b93d7040ec283b306d0cbdb7fe11af88c63cab9870", func := "loop.example/pub-g03030/laws.FnEarlyTraffic", spec := "fnEarlyTraffic", unfollowed := true, recurses := true, named := ["loop.example/pub-g03030/pub/sha256._K"], apart := false, laid := [("loop.example/pub-g03030/pub/sha256._K", laid_loop_example_pub_g03030_pub_sha256_K)], narrowed := true }
def FnEarlyTrafficUptoSaid : Prop := fnEarlyTrafficUptoRow.holds Tryd.pinned (OpenSpec.upto fnEarlyTrafficSpec)

/-- 'laws.FnEarlyExported', WHERE WHAT IT READS IS OF BULK AT MOST 1048576: true; the input reads as it did. -/
def fnEarlyExportedUptoRow : OpenClaim := { program := "ytknoomndofnnmaadoor", sum := "9447e499cbbf9cf1af7769b93d7040ec283b306d0cbdb7fe11af88c63cab9870", func := "loop.example/pub-g03030/laws.FnEarlyExported", spec := "fnEarlyExported", unfollowed := true, recurses := true, named := ["loop.example/pub-g03030/pub/sha256._K"], apart := false, laid := [("loop.example/pub-g03030/pub/sha256._K", laid_loop_example_pub_g03030_pub_sha256_K)], narrowed := true }
def FnEarlyExportedUptoSaid : Prop := fnEarlyExportedUptoRow.holds Tryd.pinned (OpenSpec.upto fnEarlyExportedSpec)

/-- 'laws.FnClientHandshake', WHERE WHAT IT READS IS OF BULK AT MOST 1048576: true; the input reads as it did. -/
def fnClientHandshakeUptoRow : OpenClaim := { program := "ytknoomndofnnmaadoor", sum := "9447e499cbbf9cf1af7769b93d7040ec283b306d0cbdb7fe11af88c63cab9870", func := "loop.example/pub-g03030/laws.FnClientHandshake", spec := "fnClientHandshake", unfollowed := true, recurses := true, named := ["loop.example/pub-g03030/pub/sha256._K"], apart := false, laid := [("loop.example/pub-g03030/pub/sha256._K", laid_loop_example_pub_g03030_pub_sha256_K)], narrowed := true }
def FnClientHandshakeUptoSaid : Prop := fnClientHandshakeUptoRow.holds Tryd.pinned (OpenSpec.upto fnClientHandshakeSpec)

/-- 'laws.FnServerHandshake', WHERE WHAT IT READS IS OF BULK AT MOST 1048576: true; the input reads as it did. -/
def fnServerHandshakeUptoRow : OpenClaim := { program := "ytknoomndofnnmaadoor", sum := "9447e499cbbf9cf1af7769b93d7040ec283b306d0cbdb7fe11af88c63cab9870", func := "loop.example/pub-g03030/laws.FnServerHandshake", spec := "fnServerHandshake", unfollowed := true, recurses := true, named := ["loop.example/pub-g03030/pub/sha256._K"], apart := false, laid := [("loop.example/pub-g03030/pub/sha256._K", laid_loop_example_pub_g03030_pub_sha256_K)], narrowed := true }
def FnServerHandshakeUptoSaid : Prop := fnServerHandshakeUptoRow.holds Tryd.pinned (OpenSpec.upto fnServerHandshakeSpec)

/-- 'laws.FnClientTraffic', WHERE WHAT IT READS IS OF BULK AT MOST 1048576: true; the input reads as it did. -/
def fnClientTrafficUptoRow : OpenClaim := { program := "ytknoomndofnnmaadoor", sum := "9447e499cbbf9cf1af7769b93d7040ec283b306d0cbdb7fe11af88c63cab9870", func := "loop.example/pub-g03030/laws.FnClientTraffic", spec := "fnClientTraffic", unfollowed := true, recurses := true, named := ["loop.example/pub-g03030/pub/sha256._K"], apart := false, laid := [("loop.example/pub-g03030/pub/sha256._K", laid_loop_example_pub_g03030_pub_sha256_K)], narrowed := true }
def FnClientTrafficUptoSaid : Prop := fnClientTrafficUptoRow.holds Tryd.pinned (OpenSpec.upto fnClientTrafficSpec)

/-- 'laws.FnResumption', WHERE WHAT IT READS IS OF BULK AT MOST 1048576: true; the input reads as it did. -/
def fnResumptionUptoRow : OpenClaim := { program := "ytknoomndofnnmaadoor", sum := "9447e499cbbf9cf1af7769b93d7040ec283b306d0cbdb7fe11af88c63cab9870", func := "loop.example/pub-g03030/laws.FnResumption", spec := "fnResumption", unfollowed := true, recurses := true, named := ["loop.example/pub-g03030/pub/sha256._K"], apart := false, laid := [("loop.example/pub-g03030/pub/sha256._K", laid_loop_example_pub_g03030_pub_sha256_K)], narrowed := true }
def FnResumptionUptoSaid : Prop := fnResumptionUptoRow.holds Tryd.pinned (OpenSpec.upto fnResumptionSpec)

/-- 'laws.FnServerTraffic', WHERE WHAT IT READS IS OF BULK AT MOST 1048576: true; the input reads as it did. -/
def fnServerTrafficUptoRow : OpenClaim := { program := "ytknoomndofnnmaadoor", sum := "9447e499cbbf9cf1af7769b93d7040ec283b306d0cbdb7fe11af88c63cab9870", func := "loop.example/pub-g03030/laws.FnServerTraffic", spec := "fnServerTraffic", unfollowed := true, recurses := true, named := ["loop.example/pub-g03030/pub/sha256._K"], apart := false, laid := [("loop.example/pub-g03030/pub/sha256._K", laid_loop_example_pub_g03030_pub_sha256_K)], narrowed := true }
def FnServerTrafficUptoSaid : Prop := fnServerTrafficUptoRow.holds Tryd.pinned (OpenSpec.upto fnServerTrafficSpec)

end Rows
end Go.Proofs.YtknoomndofnnmaaDoor
