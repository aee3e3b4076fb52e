/-
  DERIVED. GIVEN WITH THE SEED: THE CARDS: each row of YtknoomndofnnmaaDoorRows.lean that lists a variable, with what it lists TIED to the program's text (the seventh form; the later family's looks); each row that meets fmt, with fmt's text TOLD by the authors' own Lean function (tested against real Go, not proved from fmt's source: count such statements apart). THE CARD IS WHAT COUNTS. Prove the row's statement (the work); the ties are given (YtknoomndofnnmaaDoorTie.lean); close each card by the builder's one call (the guide's Derived/Test/ToyasCard.lean, 'card_holds'). Laid BY PROGRAM, IN A SANDBOX (cutbox-door.mjs). By AI agents, Wed Nov 11 2026. No macro, syntax, notation, axiom, sorry.
-/
import Derived.Test.YtknoomndofnnmaaDoorRows
import GoSem.ClaimSeven
namespace Go.Proofs.YtknoomndofnnmaaDoor
namespace Rows

/-- THE TIED CARD OF 'laws.FnSum'. -/
def fnSumCard : Claim7 := { stood := { row := fnSumRow, standIns := [], harness := (true, "7552e6c04ac8d5e5983ce006ab98664339ca2274dc6f6647101248794c3d9932"), looks := true }, kinds := [], alts := [], laidByText := true, laidKinds := [.data], laidTests := true, laidLooks := .later }
def FnSumCardSaid : Prop := Claim7.holds Tryd.pinned (.plain (OpenSpec.ofChange fnSumSpec)) fnSumCard

/-- THE TIED CARD OF 'laws.FnZeros'. -/
def fnZerosCard : Claim7 := { stood := { row := fnZerosRow, standIns := [], harness := (true, "7552e6c04ac8d5e5983ce006ab98664339ca2274dc6f6647101248794c3d9932"), looks := true }, kinds := [], alts := [], laidByText := true, laidKinds := [.data], laidTests := true, laidLooks := .later }
def FnZerosCardSaid : Prop := Claim7.holds Tryd.pinned (.plain (OpenSpec.ofChange fnZerosSpec)) fnZerosCard

/-- THE TIED CARD OF 'laws.FnExported'. -/
def fnExportedCard : Claim7 := { stood := { row := fnExportedRow, standIns := [], harness := (true, "7552e6c04ac8d5e5983ce006ab98664339ca2274dc6f6647101248794c3d9932"), looks := true }, kinds := [], alts := [], laidByText := true, laidKinds := [.data], laidTests := true, laidLooks := .later }
def FnExportedCardSaid : Prop := Claim7.holds Tryd.pinned (.plain (OpenSpec.ofChange fnExportedSpec)) fnExportedCard

/-- THE TIED CARD OF 'laws.FnSecretsRoad'. -/
def fnSecretsRoadCard : Claim7 := { stood := { row := fnSecretsRoadRow, standIns := [], harness := (true, "7552e6c04ac8d5e5983ce006ab98664339ca2274dc6f6647101248794c3d9932"), looks := true }, kinds := [], alts := [], laidByText := true, laidKinds := [.data], laidTests := true, laidLooks := .later }
def FnSecretsRoadCardSaid : Prop := Claim7.holds Tryd.pinned (.plain (OpenSpec.ofChange fnSecretsRoadSpec)) fnSecretsRoadCard

/-- THE TIED CARD OF 'laws.FnDeriveSecret'. -/
def fnDeriveSecretCard : Claim7 := { stood := { row := fnDeriveSecretRow, standIns := [], harness := (true, "7552e6c04ac8d5e5983ce006ab98664339ca2274dc6f6647101248794c3d9932"), looks := true }, kinds := [], alts := [], laidByText := true, laidKinds := [.data], laidTests := true, laidLooks := .later }
def FnDeriveSecretCardSaid : Prop := Claim7.holds Tryd.pinned (.plain (OpenSpec.ofChange fnDeriveSecretSpec)) fnDeriveSecretCard

/-- THE TIED CARD OF 'laws.FnDeriveRoad'. -/
def fnDeriveRoadCard : Claim7 := { stood := { row := fnDeriveRoadRow, standIns := [], harness := (true, "7552e6c04ac8d5e5983ce006ab98664339ca2274dc6f6647101248794c3d9932"), looks := true }, kinds := [], alts := [], laidByText := true, laidKinds := [.data], laidTests := true, laidLooks := .later }
def FnDeriveRoadCardSaid : Prop := Claim7.holds Tryd.pinned (.plain (OpenSpec.ofChange fnDeriveRoadSpec)) fnDeriveRoadCard

/-- THE TIED CARD OF 'laws.FnEarlyTraffic'. -/
def fnEarlyTrafficCard : Claim7 := { stood := { row := fnEarlyTrafficRow, standIns := [], harness := (true, "7552e6c04ac8d5e5983ce006ab98664339ca2274dc6f6647101248794c3d9932"), looks := true }, kinds := [], alts := [], laidByText := true, laidKinds := [.data], laidTests := true, laidLooks := .later }
def FnEarlyTrafficCardSaid : Prop := Claim7.holds Tryd.pinned (.plain (OpenSpec.ofChange fnEarlyTrafficSpec)) fnEarlyTrafficCard

/-- THE TIED CARD OF 'laws.FnEarlyExported'. -/
def fnEarlyExportedCard : Claim7 := { stood := { row := fnEarlyExportedRow, standIns := [], harness := (true, "7552e6c04ac8d5e5983ce006ab98664339ca2274dc6f6647101248794c3d9932"), looks := true }, kinds := [], alts := [], laidByText := true, laidKinds := [.data], laidTests := true, laidLooks := .later }
def FnEarlyExportedCardSaid : Prop := Claim7.holds Tryd.pinned (.plain (OpenSpec.ofChange fnEarlyExportedSpec)) fnEarlyExportedCard

/-- THE TIED CARD OF 'laws.FnClientHandshake'. -/
def fnClientHandshakeCard : Claim7 := { stood := { row := fnClientHandshakeRow, standIns := [], harness := (true, "7552e6c04ac8d5e5983ce006ab98664339ca2274dc6f6647101248794c3d9932"), looks := true }, kinds := [], alts := [], laidByText := true, laidKinds := [.data], laidTests := true, laidLooks := .later }
def FnClientHandshakeCardSaid : Prop := Claim7.holds Tryd.pinned (.plain (OpenSpec.ofChange fnClientHandshakeSpec)) fnClientHandshakeCard

/-- THE TIED CARD OF 'laws.FnServerHandshake'. -/
def fnServerHandshakeCard : Claim7 := { stood := { row := fnServerHandshakeRow, standIns := [], harness := (true, "7552e6c04ac8d5e5983ce006ab98664339ca2274dc6f6647101248794c3d9932"), looks := true }, kinds := [], alts := [], laidByText := true, laidKinds := [.data], laidTests := true, laidLooks := .later }
def FnServerHandshakeCardSaid : Prop := Claim7.holds Tryd.pinned (.plain (OpenSpec.ofChange fnServerHandshakeSpec)) fnServerHandshakeCard

/-- THE TIED CARD OF 'laws.FnClientTraffic'. -/
def fnClientTrafficCard : Claim7 := { stood := { row := fnClientTrafficRow, standIns := [], harness := (true, "7552e6c04ac8d5e5983ce006ab98664339ca2274dc6f6647101248794c3d9932"), looks := true }, kinds := [], alts := [], laidByText := true, laidKinds := [.data], laidTests := true, laidLooks := .later }
def FnClientTrafficCardSaid : Prop := Claim7.holds Tryd.pinned (.plain (OpenSpec.ofChange fnClientTrafficSpec)) fnClientTrafficCard

/-- THE TIED CARD OF 'laws.FnResumption'. -/
def fnResumptionCard : Claim7 := { stood := { row := fnResumptionRow, standIns := [], harness := (true, "7552e6c04ac8d5e5983ce006ab98664339ca2274dc6f6647101248794c3d9932"), looks := true }, kinds := [], alts := [], laidByText := true, laidKinds := [.data], laidTests := true, laidLooks := .later }
def FnResumptionCardSaid : Prop := Claim7.holds Tryd.pinned (.plain (OpenSpec.ofChange fnResumptionSpec)) fnResumptionCard

/-- THE TIED CARD OF 'laws.FnServerTraffic'. -/
def fnServerTrafficCard : Claim7 := { stood := { row := fnServerTrafficRow, standIns := [], harness := (true, "7552e6c04ac8d5e5983ce006ab98664339ca2274dc6f6647101248794c3d9932"), looks := true }, kinds := [], alts := [], laidByText := true, laidKinds := [.data], laidTests := true, laidLooks := .later }
def FnServerTrafficCardSaid : Prop := Claim7.holds Tryd.pinned (.plain (OpenSpec.ofChange fnServerTrafficSpec)) fnServerTrafficCard

/-- THE SECOND FORM's CARD OF 'laws.FnSum'. -/
def fnSumUptoCard : Claim7 := { stood := { row := fnSumUptoRow, standIns := [], harness := (true, "7552e6c04ac8d5e5983ce006ab98664339ca2274dc6f6647101248794c3d9932"), looks := true }, kinds := [], alts := [], laidByText := true, laidKinds := [.data], laidTests := true, laidLooks := .later }
def FnSumUptoCardSaid : Prop := Claim7.holds Tryd.pinned (.plain (OpenSpec.upto fnSumSpec)) fnSumUptoCard

/-- THE SECOND FORM's CARD OF 'laws.FnZeros'. -/
def fnZerosUptoCard : Claim7 := { stood := { row := fnZerosUptoRow, standIns := [], harness := (true, "7552e6c04ac8d5e5983ce006ab98664339ca2274dc6f6647101248794c3d9932"), looks := true }, kinds := [], alts := [], laidByText := true, laidKinds := [.data], laidTests := true, laidLooks := .later }
def FnZerosUptoCardSaid : Prop := Claim7.holds Tryd.pinned (.plain (OpenSpec.upto fnZerosSpec)) fnZerosUptoCard

/-- THE SECOND FORM's CARD OF 'laws.FnExported'. -/
def fnExportedUptoCard : Claim7 := { stood := { row := fnExportedUptoRow, standIns := [], harness := (true, "7552e6c04ac8d5e5983ce006ab98664339ca2274dc6f6647101248794c3d9932"), looks := true }, kinds := [], alts := [], laidByText := true, laidKinds := [.data], laidTests := true, laidLooks := .later }
def FnExportedUptoCardSaid : Prop := Claim7.holds Tryd.pinned (.plain (OpenSpec.upto fnExportedSpec)) fnExportedUptoCard

/-- THE SECOND FORM's CARD OF 'laws.FnSecretsRoad'. -/
def fnSecretsRoadUptoCard : Claim7 := { stood := { row := fnSecretsRoadUptoRow, standIns := [], harness := (true, "7552e6c04ac8d5e5983ce006ab98664339ca2274dc6f6647101248794c3d9932"), looks := true }, kinds := [], alts := [], laidByText := true, laidKinds := [.data], laidTests := true, laidLooks := .later }
def FnSecretsRoadUptoCardSaid : Prop := Claim7.holds Tryd.pinned (.plain (OpenSpec.upto fnSecretsRoadSpec)) fnSecretsRoadUptoCard

/-- THE SECOND FORM's CARD OF 'laws.FnDeriveSecret'. -/
def fnDeriveSecretUptoCard : Claim7 := { stood := { row := fnDeriveSecretUptoRow, standIns := [], harness := (true, "7552e6c04ac8d5e5983ce006ab98664339ca2274dc6f6647101248794c3d9932"), looks := true }, kinds := [], alts := [], laidByText := true, laidKinds := [.data], laidTests := true, laidLooks := .later }
def FnDeriveSecretUptoCardSaid : Prop := Claim7.holds Tryd.pinned (.plain (OpenSpec.upto fnDeriveSecretSpec)) fnDeriveSecretUptoCard

/-- THE SECOND FORM's CARD OF 'laws.FnDeriveRoad'. -/
def fnDeriveRoadUptoCard : Claim7 := { stood := { row := fnDeriveRoadUptoRow, standIns := [], harness := (true, "7552e6c04ac8d5e5983ce006ab98664339ca2274dc6f6647101248794c3d9932"), looks := true }, kinds := [], alts := [], laidByText := true, laidKinds := [.data], laidTests := true, laidLooks := .later }
def FnDeriveRoadUptoCardSaid : Prop := Claim7.holds Tryd.pinned (.plain (OpenSpec.upto fnDeriveRoadSpec)) fnDeriveRoadUptoCard

/-- THE SECOND FORM's CARD OF 'laws.FnEarlyTraffic'. -/
def fnEarlyTrafficUptoCard : Claim7 := { stood := { row := fnEarlyTrafficUptoRow, standIns := [], harness := (true, "7552e6c04ac8d5e5983ce006ab98664339ca2274dc6f6647101248794c3d9932"), looks := true }, kinds := [], alts := [], laidByText := true, laidKinds := [.data], laidTests := true, laidLooks := .later }
def FnEarlyTrafficUptoCardSaid : Prop := Claim7.holds Tryd.pinned (.plain (OpenSpec.upto fnEarlyTrafficSpec)) fnEarlyTrafficUptoCard

/-- THE SECOND FORM's CARD OF 'laws.FnEarlyExported'. -/
def fnEarlyExportedUptoCard : Claim7 := { stood := { row := fnEarlyExportedUptoRow, standIns := [], harness := (true, "7552e6c04ac8d5e5983ce006ab98664339ca2274dc6f6647101248794c3d9932"), looks := true }, kinds := [], alts := [], laidByText := true, laidKinds := [.data], laidTests := true, laidLooks := .later }
def FnEarlyExportedUptoCardSaid : Prop := Claim7.holds Tryd.pinned (.plain (OpenSpec.upto fnEarlyExportedSpec)) fnEarlyExportedUptoCard

/-- THE SECOND FORM's CARD OF 'laws.FnClientHandshake'. -/
def fnClientHandshakeUptoCard : Claim7 := { stood := { row := fnClientHandshakeUptoRow, standIns := [], harness := (true, "7552e6c04ac8d5e5983ce006ab98664339ca2274dc6f6647101248794c3d9932"), looks := true }, kinds := [], alts := [], laidByText := true, laidKinds := [.data], laidTests := true, laidLooks := .later }
def FnClientHandshakeUptoCardSaid : Prop := Claim7.holds Tryd.pinned (.plain (OpenSpec.upto fnClientHandshakeSpec)) fnClientHandshakeUptoCard

/-- THE SECOND FORM's CARD OF 'laws.FnServerHandshake'. -/
def fnServerHandshakeUptoCard : Claim7 := { stood := { row := fnServerHandshakeUptoRow, standIns := [], harness := (true, "7552e6c04ac8d5e5983ce006ab98664339ca2274dc6f6647101248794c3d9932"), looks := true }, kinds := [], alts := [], laidByText := true, laidKinds := [.data], laidTests := true, laidLooks := .later }
def FnServerHandshakeUptoCardSaid : Prop := Claim7.holds Tryd.pinned (.plain (OpenSpec.upto fnServerHandshakeSpec)) fnServerHandshakeUptoCard

/-- THE SECOND FORM's CARD OF 'laws.FnClientTraffic'. -/
def fnClientTrafficUptoCard : Claim7 := { stood := { row := fnClientTrafficUptoRow, standIns := [], harness := (true, "7552e6c04ac8d5e5983ce006ab98664339ca2274dc6f6647101248794c3d9932"), looks := true }, kinds := [], alts := [], laidByText := true, laidKinds := [.data], laidTests := true, laidLooks := .later }
def FnClientTrafficUptoCardSaid : Prop := Claim7.holds Tryd.pinned (.plain (OpenSpec.upto fnClientTrafficSpec)) fnClientTrafficUptoCard

/-- THE SECOND FORM's CARD OF 'laws.FnResumption'. -/
def fnResumptionUptoCard : Claim7 := { stood := { row := fnResumptionUptoRow, standIns := [], harness := (true, "7552e6c04ac8d5e5983ce006ab98664339ca2274dc6f6647101248794c3d9932"), looks := true }, kinds := [], alts := [], laidByText := true, laidKinds := [.data], laidTests := true, laidLooks := .later }
def FnResumptionUptoCardSaid : Prop := Claim7.holds Tryd.pinned (.plain (OpenSpec.upto fnResumptionSpec)) fnResumptionUptoCard

/-- THE SECOND FORM's CARD OF 'laws.FnServerTraffic'. -/
def fnServerTrafficUptoCard : Claim7 := { stood := { row := fnServerTrafficUptoRow, standIns := [], harness := (true, "7552e6c04ac8d5e5983ce006ab98664339ca2274dc6f6647101248794c3d9932"), looks := true }, kinds := [], alts := [], laidByText := true, laidKinds := [.data], laidTests := true, laidLooks := .later }
def FnServerTrafficUptoCardSaid : Prop := Claim7.holds Tryd.pinned (.plain (OpenSpec.upto fnServerTrafficSpec)) fnServerTrafficUptoCard
end Rows
end Go.Proofs.YtknoomndofnnmaaDoor
