/-
  DERIVED. GIVEN WITH THE SEED: THE CARDS: each row of YthigdbokhghbjaaDoorRows.lean that lists a variable, with what it lists TIED to the program's text (the seventh form; the later family's looks); each row that meets fmt, with fmt's text TOLD by the authors' own Lean function (tested against real Go, not proved from fmt's source: count such statements apart). THE CARD IS WHAT COUNTS. Prove the row's statement (the work); the ties are given (YthigdbokhghbjaaDoorTie.lean); close each card by the builder's one call (the guide's Derived/Test/ToyasCard.lean, 'card_holds'). Laid BY PROGRAM, IN A SANDBOX (cutbox-door.mjs). By AI agents, Wed Nov 11 2026. No macro, syntax, notation, axiom, sorry.
-/
import Derived.Test.YthigdbokhghbjaaDoorRows
import GoSem.ClaimSeven
namespace Go.Proofs.YthigdbokhghbjaaDoor
namespace Rows

/-- THE TIED CARD OF 'laws.FnPower'. -/
def fnPowerCard : Claim7 := { stood := { row := fnPowerRow, standIns := [], harness := (true, "d075027a936d0e85acf15b511f7318eda71dc139e3f9a9f3eb8b8cb9f5e40ee2"), looks := false }, kinds := [], alts := [], laidByText := true, laidKinds := [.data, .data], laidTests := true, laidLooks := .later }
def FnPowerCardSaid : Prop := Claim7.holds Tryd.pinned (.plain (OpenSpec.ofChange fnPowerSpec)) fnPowerCard

/-- THE TIED CARD OF 'laws.FnIdentity'. -/
def fnIdentityCard : Claim7 := { stood := { row := fnIdentityRow, standIns := [], harness := (true, "d075027a936d0e85acf15b511f7318eda71dc139e3f9a9f3eb8b8cb9f5e40ee2"), looks := false }, kinds := [], alts := [], laidByText := true, laidKinds := [.sentinel, .sentinel], laidTests := true, laidLooks := .later }
def FnIdentityCardSaid : Prop := Claim7.holds Tryd.pinned (.plain (OpenSpec.ofChange fnIdentitySpec)) fnIdentityCard

/-- THE TIED CARD OF 'laws.FnVandermonde'. -/
def fnVandermondeCard : Claim7 := { stood := { row := fnVandermondeRow, standIns := [], harness := (true, "d075027a936d0e85acf15b511f7318eda71dc139e3f9a9f3eb8b8cb9f5e40ee2"), looks := false }, kinds := [], alts := [], laidByText := true, laidKinds := [.data, .data, .sentinel, .sentinel], laidTests := true, laidLooks := .later }
def FnVandermondeCardSaid : Prop := Claim7.holds Tryd.pinned (.plain (OpenSpec.ofChange fnVandermondeSpec)) fnVandermondeCard

/-- THE SECOND FORM's CARD OF 'laws.FnPower'. -/
def fnPowerUptoCard : Claim7 := { stood := { row := fnPowerUptoRow, standIns := [], harness := (true, "d075027a936d0e85acf15b511f7318eda71dc139e3f9a9f3eb8b8cb9f5e40ee2"), looks := false }, kinds := [], alts := [], laidByText := true, laidKinds := [.data, .data], laidTests := true, laidLooks := .later }
def FnPowerUptoCardSaid : Prop := Claim7.holds Tryd.pinned (.plain (OpenSpec.upto fnPowerSpec)) fnPowerUptoCard

/-- THE SECOND FORM's CARD OF 'laws.FnIdentity'. -/
def fnIdentityUptoCard : Claim7 := { stood := { row := fnIdentityUptoRow, standIns := [], harness := (true, "d075027a936d0e85acf15b511f7318eda71dc139e3f9a9f3eb8b8cb9f5e40ee2"), looks := false }, kinds := [], alts := [], laidByText := true, laidKinds := [.sentinel, .sentinel], laidTests := true, laidLooks := .later }
def FnIdentityUptoCardSaid : Prop := Claim7.holds Tryd.pinned (.plain (OpenSpec.upto fnIdentitySpec)) fnIdentityUptoCard

/-- THE SECOND FORM's CARD OF 'laws.FnVandermonde'. -/
def fnVandermondeUptoCard : Claim7 := { stood := { row := fnVandermondeUptoRow, standIns := [], harness := (true, "d075027a936d0e85acf15b511f7318eda71dc139e3f9a9f3eb8b8cb9f5e40ee2"), looks := false }, kinds := [], alts := [], laidByText := true, laidKinds := [.data, .data, .sentinel, .sentinel], laidTests := true, laidLooks := .later }
def FnVandermondeUptoCardSaid : Prop := Claim7.holds Tryd.pinned (.plain (OpenSpec.upto fnVandermondeSpec)) fnVandermondeUptoCard
end Rows
end Go.Proofs.YthigdbokhghbjaaDoor
