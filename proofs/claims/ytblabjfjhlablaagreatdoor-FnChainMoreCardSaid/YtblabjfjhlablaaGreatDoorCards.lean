/-
  DERIVED. GIVEN WITH THE SEED: THE CARDS: each row of YtblabjfjhlablaaGreatDoorRows.lean that lists a variable, with what it lists TIED to the program's text (the seventh form; the later family's looks); each row that meets fmt, with fmt's text TOLD by the authors' own Lean function (tested against real Go, not proved from fmt's source: count such statements apart). THE CARD IS WHAT COUNTS. Prove the row's statement (the work); the ties are given (YtblabjfjhlablaaGreatDoorTie.lean); close each card by the builder's one call (the guide's Derived/Test/ToyasCard.lean, 'card_holds'). Laid BY PROGRAM, IN A SANDBOX (cutbox-door.mjs). By AI agents, Wed Nov 11 2026. No macro, syntax, notation, axiom, sorry.
-/
import Derived.Test.YtblabjfjhlablaaGreatDoorRows
import GoSem.ClaimSeven
namespace Go.Proofs.YtblabjfjhlablaaGreatDoor
namespace Rows

/-- THE TIED CARD OF 'laws.FnChainDNS'. -/
def fnChainDNSCard : Claim7 := { stood := { row := fnChainDNSRow, standIns := [], harness := (true, "05d45ea627479eb202489b06ec44d64bf4571b9b7eef81d1106f71cd67428d31"), looks := false }, kinds := [], alts := [], laidByText := true, laidKinds := [.data, .called, .called, .zero, .pinned, .pinned], laidTests := true, laidLooks := .later }
def FnChainDNSCardSaid : Prop := Claim7.holds Tryz.pinned (.plain (OpenSpec.ofChange fnChainDNSSpec)) fnChainDNSCard

/-- THE TIED CARD OF 'laws.FnChainMail'. -/
def fnChainMailCard : Claim7 := { stood := { row := fnChainMailRow, standIns := [], harness := (true, "05d45ea627479eb202489b06ec44d64bf4571b9b7eef81d1106f71cd67428d31"), looks := false }, kinds := [], alts := [], laidByText := true, laidKinds := [.data, .called, .called, .zero, .pinned, .pinned], laidTests := true, laidLooks := .later }
def FnChainMailCardSaid : Prop := Claim7.holds Tryz.pinned (.plain (OpenSpec.ofChange fnChainMailSpec)) fnChainMailCard

/-- THE TIED CARD OF 'laws.FnChainOwn'. -/
def fnChainOwnCard : Claim7 := { stood := { row := fnChainOwnRow, standIns := [], harness := (true, "05d45ea627479eb202489b06ec44d64bf4571b9b7eef81d1106f71cd67428d31"), looks := false }, kinds := [], alts := [], laidByText := true, laidKinds := [.data, .called, .called, .zero, .pinned, .pinned], laidTests := true, laidLooks := .later }
def FnChainOwnCardSaid : Prop := Claim7.holds Tryz.pinned (.plain (OpenSpec.ofChange fnChainOwnSpec)) fnChainOwnCard

/-- THE TIED CARD OF 'laws.FnChainURI'. -/
def fnChainURICard : Claim7 := { stood := { row := fnChainURIRow, standIns := [], harness := (true, "05d45ea627479eb202489b06ec44d64bf4571b9b7eef81d1106f71cd67428d31"), looks := false }, kinds := [], alts := [], laidByText := true, laidKinds := [.data, .called, .called, .zero, .pinned, .pinned], laidTests := true, laidLooks := .later }
def FnChainURICardSaid : Prop := Claim7.holds Tryz.pinned (.plain (OpenSpec.ofChange fnChainURISpec)) fnChainURICard

/-- THE TIED CARD OF 'laws.FnChainOrder'. -/
def fnChainOrderCard : Claim7 := { stood := { row := fnChainOrderRow, standIns := [], harness := (true, "05d45ea627479eb202489b06ec44d64bf4571b9b7eef81d1106f71cd67428d31"), looks := false }, kinds := [], alts := [], laidByText := true, laidKinds := [.data, .called, .called, .zero, .pinned, .pinned], laidTests := true, laidLooks := .later }
def FnChainOrderCardSaid : Prop := Claim7.holds Tryz.pinned (.plain (OpenSpec.ofChange fnChainOrderSpec)) fnChainOrderCard

/-- THE TIED CARD OF 'laws.FnChainIP'. -/
def fnChainIPCard : Claim7 := { stood := { row := fnChainIPRow, standIns := [], harness := (true, "05d45ea627479eb202489b06ec44d64bf4571b9b7eef81d1106f71cd67428d31"), looks := false }, kinds := [], alts := [], laidByText := true, laidKinds := [.data, .called, .called, .zero, .pinned, .pinned], laidTests := true, laidLooks := .later }
def FnChainIPCardSaid : Prop := Claim7.holds Tryz.pinned (.plain (OpenSpec.ofChange fnChainIPSpec)) fnChainIPCard

/-- THE TIED CARD OF 'laws.FnChain'. -/
def fnChainCard : Claim7 := { stood := { row := fnChainRow, standIns := [], harness := (true, "05d45ea627479eb202489b06ec44d64bf4571b9b7eef81d1106f71cd67428d31"), looks := false }, kinds := [], alts := [], laidByText := true, laidKinds := [.data, .called, .called, .zero, .pinned, .pinned], laidTests := true, laidLooks := .later }
def FnChainCardSaid : Prop := Claim7.holds Tryz.pinned (.plain (OpenSpec.ofChange fnChainSpec)) fnChainCard

/-- THE TIED CARD OF 'laws.FnChainMore'. -/
def fnChainMoreCard : Claim7 := { stood := { row := fnChainMoreRow, standIns := [], harness := (true, "05d45ea627479eb202489b06ec44d64bf4571b9b7eef81d1106f71cd67428d31"), looks := false }, kinds := [], alts := [], laidByText := true, laidKinds := [.data, .called, .called, .zero, .pinned, .pinned], laidTests := true, laidLooks := .later }
def FnChainMoreCardSaid : Prop := Claim7.holds Tryz.pinned (.plain (OpenSpec.ofChange fnChainMoreSpec)) fnChainMoreCard

/-- THE SECOND FORM's CARD OF 'laws.FnChainDNS'. -/
def fnChainDNSUptoCard : Claim7 := { stood := { row := fnChainDNSUptoRow, standIns := [], harness := (true, "05d45ea627479eb202489b06ec44d64bf4571b9b7eef81d1106f71cd67428d31"), looks := false }, kinds := [], alts := [], laidByText := true, laidKinds := [.data, .called, .called, .zero, .pinned, .pinned], laidTests := true, laidLooks := .later }
def FnChainDNSUptoCardSaid : Prop := Claim7.holds Tryz.pinned (.plain (OpenSpec.upto fnChainDNSSpec)) fnChainDNSUptoCard

/-- THE SECOND FORM's CARD OF 'laws.FnChainMail'. -/
def fnChainMailUptoCard : Claim7 := { stood := { row := fnChainMailUptoRow, standIns := [], harness := (true, "05d45ea627479eb202489b06ec44d64bf4571b9b7eef81d1106f71cd67428d31"), looks := false }, kinds := [], alts := [], laidByText := true, laidKinds := [.data, .called, .called, .zero, .pinned, .pinned], laidTests := true, laidLooks := .later }
def FnChainMailUptoCardSaid : Prop := Claim7.holds Tryz.pinned (.plain (OpenSpec.upto fnChainMailSpec)) fnChainMailUptoCard

/-- THE SECOND FORM's CARD OF 'laws.FnChainOwn'. -/
def fnChainOwnUptoCard : Claim7 := { stood := { row := fnChainOwnUptoRow, standIns := [], harness := (true, "05d45ea627479eb202489b06ec44d64bf4571b9b7eef81d1106f71cd67428d31"), looks := false }, kinds := [], alts := [], laidByText := true, laidKinds := [.data, .called, .called, .zero, .pinned, .pinned], laidTests := true, laidLooks := .later }
def FnChainOwnUptoCardSaid : Prop := Claim7.holds Tryz.pinned (.plain (OpenSpec.upto fnChainOwnSpec)) fnChainOwnUptoCard

/-- THE SECOND FORM's CARD OF 'laws.FnChainURI'. -/
def fnChainURIUptoCard : Claim7 := { stood := { row := fnChainURIUptoRow, standIns := [], harness := (true, "05d45ea627479eb202489b06ec44d64bf4571b9b7eef81d1106f71cd67428d31"), looks := false }, kinds := [], alts := [], laidByText := true, laidKinds := [.data, .called, .called, .zero, .pinned, .pinned], laidTests := true, laidLooks := .later }
def FnChainURIUptoCardSaid : Prop := Claim7.holds Tryz.pinned (.plain (OpenSpec.upto fnChainURISpec)) fnChainURIUptoCard

/-- THE SECOND FORM's CARD OF 'laws.FnChainOrder'. -/
def fnChainOrderUptoCard : Claim7 := { stood := { row := fnChainOrderUptoRow, standIns := [], harness := (true, "05d45ea627479eb202489b06ec44d64bf4571b9b7eef81d1106f71cd67428d31"), looks := false }, kinds := [], alts := [], laidByText := true, laidKinds := [.data, .called, .called, .zero, .pinned, .pinned], laidTests := true, laidLooks := .later }
def FnChainOrderUptoCardSaid : Prop := Claim7.holds Tryz.pinned (.plain (OpenSpec.upto fnChainOrderSpec)) fnChainOrderUptoCard

/-- THE SECOND FORM's CARD OF 'laws.FnChainIP'. -/
def fnChainIPUptoCard : Claim7 := { stood := { row := fnChainIPUptoRow, standIns := [], harness := (true, "05d45ea627479eb202489b06ec44d64bf4571b9b7eef81d1106f71cd67428d31"), looks := false }, kinds := [], alts := [], laidByText := true, laidKinds := [.data, .called, .called, .zero, .pinned, .pinned], laidTests := true, laidLooks := .later }
def FnChainIPUptoCardSaid : Prop := Claim7.holds Tryz.pinned (.plain (OpenSpec.upto fnChainIPSpec)) fnChainIPUptoCard

/-- THE SECOND FORM's CARD OF 'laws.FnChain'. -/
def fnChainUptoCard : Claim7 := { stood := { row := fnChainUptoRow, standIns := [], harness := (true, "05d45ea627479eb202489b06ec44d64bf4571b9b7eef81d1106f71cd67428d31"), looks := false }, kinds := [], alts := [], laidByText := true, laidKinds := [.data, .called, .called, .zero, .pinned, .pinned], laidTests := true, laidLooks := .later }
def FnChainUptoCardSaid : Prop := Claim7.holds Tryz.pinned (.plain (OpenSpec.upto fnChainSpec)) fnChainUptoCard

/-- THE SECOND FORM's CARD OF 'laws.FnChainMore'. -/
def fnChainMoreUptoCard : Claim7 := { stood := { row := fnChainMoreUptoRow, standIns := [], harness := (true, "05d45ea627479eb202489b06ec44d64bf4571b9b7eef81d1106f71cd67428d31"), looks := false }, kinds := [], alts := [], laidByText := true, laidKinds := [.data, .called, .called, .zero, .pinned, .pinned], laidTests := true, laidLooks := .later }
def FnChainMoreUptoCardSaid : Prop := Claim7.holds Tryz.pinned (.plain (OpenSpec.upto fnChainMoreSpec)) fnChainMoreUptoCard
end Rows
end Go.Proofs.YtblabjfjhlablaaGreatDoor
