/-
  NARROWER THAN 'FOR EVERY INPUT', by the rows' own cells (each row's printed sentence says how): FnChainDNS: laid · FnChainMail: laid · FnChainOwn: laid · FnChainURI: laid · FnChainOrder: laid · FnChainIP: laid · FnChain: laid · FnChainMore: laid.
  DERIVED. THE GIVEN ROWS OF THIS SEAT. 8 by the template 'for every input the law returns true; each argument reads behind the call as it read before'; 0 by the template 'total and deterministic' (their statements: YtblabjfjhlablaaGreatDoorTotals.lean).
  GIVEN WITH THE SEED: the statements are not yours to turn. If you find one false, say at which input.
  Laid BY PROGRAM, IN A SANDBOX (cutbox-rows.mjs): the forced cells as the released guide's own fill.sh prints them over the translation 61a22a5ab6c18ddc… (all of the seat's roots in one cut). By AI agents, Wed Nov 11 2026. No macro, syntax, notation, axiom, sorry.
-/
import Derived.Test.YtblabjfjhlablaaGreatDoorChecked
import GoSem.PinnedTables
import GoSem.Claim
import GoSem.ClaimJoined
import GoSem.ClaimMapViews
import Derived.JoinedTies
import Derived.KernelRfl
namespace Go.Proofs.YtblabjfjhlablaaGreatDoor
/- THE CELL 'sum', in the pinned program and in every row, IS THE sha256 OF THE DUMP (.gsa) THAT YtblabjfjhlablaaGreatDoorProg.lean LOADS. Nothing in Lean hashes anything: it is a label: what it is worth is what the hold of that sum in a sandbox is worth. -/
noncomputable def Tryz.pinned : Pinned := { name := "ytblabjfjhlablaagreatdoor", sum := "61a22a5ab6c18ddc61ba885d7361649c3bb0432dc6184d4fc4cd462cef8f9d19", checked := Tryz.checked }
namespace Rows
def none {H : Type} : Left H := { results := [], args := [] }

/- WHAT THE LISTED PACKAGE-LEVEL VARIABLES READ AS WHEN THE CALL BEGINS. Each datum BY PROGRAM (the guide's laid-datum.mjs) off the statement by which the dump's own 'gosem.cut.vars' lays the variable. In a bare row this is a premise. The card (YtblabjfjhlablaaGreatDoorCards.lean) ties it to the program's text. -/
def laid_unicode_utf8_acceptRanges {H : Type} : DataW H := .agg [.agg [.lit (.int .u8 128), .lit (.int .u8 191)], .agg [.lit (.int .u8 160), .lit (.int .u8 191)], .agg [.lit (.int .u8 128), .lit (.int .u8 159)], .agg [.lit (.int .u8 144), .lit (.int .u8 191)], .agg [.lit (.int .u8 128), .lit (.int .u8 143)], .agg [.lit (.int .u8 0), .lit (.int .u8 0)], .agg [.lit (.int .u8 0), .lit (.int .u8 0)], .agg [.lit (.int .u8 0), .lit (.int .u8 0)], .agg [.lit (.int .u8 0), .lit (.int .u8 0)], .agg [.lit (.int .u8 0), .lit (.int .u8 0)], .agg [.lit (.int .u8 0), .lit (.int .u8 0)], .agg [.lit (.int .u8 0), .lit (.int .u8 0)], .agg [.lit (.int .u8 0), .lit (.int .u8 0)], .agg [.lit (.int .u8 0), .lit (.int .u8 0)], .agg [.lit (.int .u8 0), .lit (.int .u8 0)], .agg [.lit (.int .u8 0), .lit (.int .u8 0)]]
def laid_net_netip_z4 {H : Type} : DataW H := .agg [.ptr (.agg [.lit (.bool false), .lit (.string [])])]
def laid_net_netip_z6noz {H : Type} : DataW H := .agg [.ptr (.agg [.lit (.bool true), .lit (.string [])])]
def laid_net_netip_z0 {H : Type} : DataW H := .agg [.nil]
/-- One of Go's own tables, pinned by name: the form's constant. -/
def laid_unicode_CaseRanges : DataW Unit := Go.Pinned.caseRanges
/-- One of Go's own tables, pinned by name: the form's constant. -/
def laid_unicode_utf8_first : DataW Unit := Go.Pinned.utf8First

/-- 'laws.FnChainDNS': WHATEVER THE INPUT: true; the input reads as it did. -/
def fnChainDNSSpec : ChangeSpec := { name := "fnChainDNS", fn := fun _ => fun
  | [d1, d2, d3] => { results := [.lit (.bool true)], args := [d1, d2, d3] }
  | _ => none }
def fnChainDNSRow : OpenClaim := { program := "ytblabjfjhlablaagreatdoor", sum := "61a22a5ab6c18ddc61ba885d7361649c3bb0432dc6184d4fc4cd462cef8f9d19", func := "loop.example/pub-g03134/laws.FnChainDNS", spec := "fnChainDNS", inPlace := ["internal/abi.NoEscape", "internal/bytealg.MakeNoZero", "internal/bytealg.IndexByteString", "internal/bytealg.Compare", "unique.Make[net/netip.addrDetail]"], unfollowed := true, recurses := true, named := ["unicode/utf8.first", "unicode/utf8.acceptRanges", "unicode.CaseRanges", "net/netip.z4", "net/netip.z6noz", "net/netip.z0"], plainKeys := false, apart := false, laid := [("unicode/utf8.acceptRanges", laid_unicode_utf8_acceptRanges), ("net/netip.z4", laid_net_netip_z4), ("net/netip.z6noz", laid_net_netip_z6noz), ("net/netip.z0", laid_net_netip_z0), ("unicode.CaseRanges", laid_unicode_CaseRanges), ("unicode/utf8.first", laid_unicode_utf8_first)] }
def FnChainDNSSaid : Prop := fnChainDNSRow.holds Tryz.pinned (OpenSpec.ofChange fnChainDNSSpec)

/-- ITS FALSE NEIGHBOUR: 'it returns false'. Refute it at one input. -/
def fnChainDNSWrong : ChangeSpec := { name := "fnChainDNS", fn := fun _ => fun
  | [d1, d2, d3] => { results := [.lit (.bool false)], args := [d1, d2, d3] }
  | _ => none }
def FnChainDNSWrongFalsely : Prop := fnChainDNSRow.holds Tryz.pinned (OpenSpec.ofChange fnChainDNSWrong)

/-- 'laws.FnChainMail': WHATEVER THE INPUT: true; the input reads as it did. -/
def fnChainMailSpec : ChangeSpec := { name := "fnChainMail", fn := fun _ => fun
  | [d1, d2, d3] => { results := [.lit (.bool true)], args := [d1, d2, d3] }
  | _ => none }
def fnChainMailRow : OpenClaim := { program := "ytblabjfjhlablaagreatdoor", sum := "61a22a5ab6c18ddc61ba885d7361649c3bb0432dc6184d4fc4cd462cef8f9d19", func := "loop.example/pub-g03134/laws.FnChainMail", spec := "fnChainMail", inPlace := ["internal/abi.NoEscape", "internal/bytealg.MakeNoZero", "internal/bytealg.IndexByteString", "internal/bytealg.Compare", "unique.Make[net/netip.addrDetail]"], unfollowed := true, recurses := true, named := ["unicode/utf8.first", "unicode/utf8.acceptRanges", "unicode.CaseRanges", "net/netip.z4", "net/netip.z6noz", "net/netip.z0"], plainKeys := false, apart := false, laid := [("unicode/utf8.acceptRanges", laid_unicode_utf8_acceptRanges), ("net/netip.z4", laid_net_netip_z4), ("net/netip.z6noz", laid_net_netip_z6noz), ("net/netip.z0", laid_net_netip_z0), ("unicode.CaseRanges", laid_unicode_CaseRanges), ("unicode/utf8.first", laid_unicode_utf8_first)] }
def FnChainMailSaid : Prop := fnChainMailRow.holds Tryz.pinned (OpenSpec.ofChange fnChainMailSpec)

/-- ITS FALSE NEIGHBOUR: 'it returns false'. Refute it at one input. -/
def fnChainMailWrong : ChangeSpec := { name := "fnChainMail", fn := fun _ => fun
  | [d1, d2, d3] => { results := [.lit (.bool false)], args := [d1, d2, d3] }
  | _ => none }
def FnChainMailWrongFalsely : Prop := fnChainMailRow.holds Tryz.pinned (OpenSpec.ofChange fnChainMailWrong)

/-- 'laws.FnChainOwn': WHATEVER THE INPUT: true; the input reads as it did. -/
def fnChainOwnSpec : ChangeSpec := { name := "fnChainOwn", fn := fun _ => fun
  | [d] => { results := [.lit (.bool true)], args := [d] }
  | _ => none }
def fnChainOwnRow : OpenClaim := { program := "ytblabjfjhlablaagreatdoor", sum := "61a22a5ab6c18ddc61ba885d7361649c3bb0432dc6184d4fc4cd462cef8f9d19", func := "loop.example/pub-g03134/laws.FnChainOwn", spec := "fnChainOwn", inPlace := ["internal/bytealg.Compare", "internal/abi.NoEscape", "internal/bytealg.MakeNoZero", "internal/bytealg.IndexByteString", "unique.Make[net/netip.addrDetail]"], unfollowed := true, recurses := true, named := ["unicode/utf8.first", "unicode/utf8.acceptRanges", "unicode.CaseRanges", "net/netip.z4", "net/netip.z6noz", "net/netip.z0"], plainKeys := false, apart := false, laid := [("unicode/utf8.acceptRanges", laid_unicode_utf8_acceptRanges), ("net/netip.z4", laid_net_netip_z4), ("net/netip.z6noz", laid_net_netip_z6noz), ("net/netip.z0", laid_net_netip_z0), ("unicode.CaseRanges", laid_unicode_CaseRanges), ("unicode/utf8.first", laid_unicode_utf8_first)] }
def FnChainOwnSaid : Prop := fnChainOwnRow.holds Tryz.pinned (OpenSpec.ofChange fnChainOwnSpec)

/-- ITS FALSE NEIGHBOUR: 'it returns false'. Refute it at one input. -/
def fnChainOwnWrong : ChangeSpec := { name := "fnChainOwn", fn := fun _ => fun
  | [d] => { results := [.lit (.bool false)], args := [d] }
  | _ => none }
def FnChainOwnWrongFalsely : Prop := fnChainOwnRow.holds Tryz.pinned (OpenSpec.ofChange fnChainOwnWrong)

/-- 'laws.FnChainURI': WHATEVER THE INPUT: true; the input reads as it did. -/
def fnChainURISpec : ChangeSpec := { name := "fnChainURI", fn := fun _ => fun
  | [d1, d2, d3] => { results := [.lit (.bool true)], args := [d1, d2, d3] }
  | _ => none }
def fnChainURIRow : OpenClaim := { program := "ytblabjfjhlablaagreatdoor", sum := "61a22a5ab6c18ddc61ba885d7361649c3bb0432dc6184d4fc4cd462cef8f9d19", func := "loop.example/pub-g03134/laws.FnChainURI", spec := "fnChainURI", inPlace := ["internal/abi.NoEscape", "internal/bytealg.MakeNoZero", "internal/bytealg.IndexByteString", "unique.Make[net/netip.addrDetail]", "internal/bytealg.Compare"], unfollowed := true, recurses := true, named := ["unicode/utf8.first", "unicode/utf8.acceptRanges", "unicode.CaseRanges", "net/netip.z4", "net/netip.z6noz", "net/netip.z0"], plainKeys := false, apart := false, laid := [("unicode/utf8.acceptRanges", laid_unicode_utf8_acceptRanges), ("net/netip.z4", laid_net_netip_z4), ("net/netip.z6noz", laid_net_netip_z6noz), ("net/netip.z0", laid_net_netip_z0), ("unicode.CaseRanges", laid_unicode_CaseRanges), ("unicode/utf8.first", laid_unicode_utf8_first)] }
def FnChainURISaid : Prop := fnChainURIRow.holds Tryz.pinned (OpenSpec.ofChange fnChainURISpec)

/-- ITS FALSE NEIGHBOUR: 'it returns false'. Refute it at one input. -/
def fnChainURIWrong : ChangeSpec := { name := "fnChainURI", fn := fun _ => fun
  | [d1, d2, d3] => { results := [.lit (.bool false)], args := [d1, d2, d3] }
  | _ => none }
def FnChainURIWrongFalsely : Prop := fnChainURIRow.holds Tryz.pinned (OpenSpec.ofChange fnChainURIWrong)

/-- 'laws.FnChainOrder': WHATEVER THE INPUT: true; the input reads as it did. -/
def fnChainOrderSpec : ChangeSpec := { name := "fnChainOrder", fn := fun _ => fun
  | [d1, d2] => { results := [.lit (.bool true)], args := [d1, d2] }
  | _ => none }
def fnChainOrderRow : OpenClaim := { program := "ytblabjfjhlablaagreatdoor", sum := "61a22a5ab6c18ddc61ba885d7361649c3bb0432dc6184d4fc4cd462cef8f9d19", func := "loop.example/pub-g03134/laws.FnChainOrder", spec := "fnChainOrder", inPlace := ["internal/bytealg.Compare", "internal/abi.NoEscape", "internal/bytealg.MakeNoZero", "internal/bytealg.IndexByteString", "unique.Make[net/netip.addrDetail]"], unfollowed := true, recurses := true, named := ["unicode/utf8.first", "unicode/utf8.acceptRanges", "unicode.CaseRanges", "net/netip.z4", "net/netip.z6noz", "net/netip.z0"], plainKeys := false, apart := false, laid := [("unicode/utf8.acceptRanges", laid_unicode_utf8_acceptRanges), ("net/netip.z4", laid_net_netip_z4), ("net/netip.z6noz", laid_net_netip_z6noz), ("net/netip.z0", laid_net_netip_z0), ("unicode.CaseRanges", laid_unicode_CaseRanges), ("unicode/utf8.first", laid_unicode_utf8_first)] }
def FnChainOrderSaid : Prop := fnChainOrderRow.holds Tryz.pinned (OpenSpec.ofChange fnChainOrderSpec)

/-- ITS FALSE NEIGHBOUR: 'it returns false'. Refute it at one input. -/
def fnChainOrderWrong : ChangeSpec := { name := "fnChainOrder", fn := fun _ => fun
  | [d1, d2] => { results := [.lit (.bool false)], args := [d1, d2] }
  | _ => none }
def FnChainOrderWrongFalsely : Prop := fnChainOrderRow.holds Tryz.pinned (OpenSpec.ofChange fnChainOrderWrong)

/-- 'laws.FnChainIP': WHATEVER THE INPUT: true; the input reads as it did. -/
def fnChainIPSpec : ChangeSpec := { name := "fnChainIP", fn := fun _ => fun
  | [d1, d2, d3] => { results := [.lit (.bool true)], args := [d1, d2, d3] }
  | _ => none }
def fnChainIPRow : OpenClaim := { program := "ytblabjfjhlablaagreatdoor", sum := "61a22a5ab6c18ddc61ba885d7361649c3bb0432dc6184d4fc4cd462cef8f9d19", func := "loop.example/pub-g03134/laws.FnChainIP", spec := "fnChainIP", inPlace := ["internal/bytealg.Compare", "internal/abi.NoEscape", "internal/bytealg.MakeNoZero", "internal/bytealg.IndexByteString", "unique.Make[net/netip.addrDetail]"], unfollowed := true, recurses := true, named := ["unicode/utf8.first", "unicode/utf8.acceptRanges", "unicode.CaseRanges", "net/netip.z4", "net/netip.z6noz", "net/netip.z0"], plainKeys := false, apart := false, laid := [("unicode/utf8.acceptRanges", laid_unicode_utf8_acceptRanges), ("net/netip.z4", laid_net_netip_z4), ("net/netip.z6noz", laid_net_netip_z6noz), ("net/netip.z0", laid_net_netip_z0), ("unicode.CaseRanges", laid_unicode_CaseRanges), ("unicode/utf8.first", laid_unicode_utf8_first)] }
def FnChainIPSaid : Prop := fnChainIPRow.holds Tryz.pinned (OpenSpec.ofChange fnChainIPSpec)

/-- ITS FALSE NEIGHBOUR: 'it returns false'. Refute it at one input. -/
def fnChainIPWrong : ChangeSpec := { name := "fnChainIP", fn := fun _ => fun
  | [d1, d2, d3] => { results := [.lit (.bool false)], args := [d1, d2, d3] }
  | _ => none }
def FnChainIPWrongFalsely : Prop := fnChainIPRow.holds Tryz.pinned (OpenSpec.ofChange fnChainIPWrong)

/-- 'laws.FnChain': WHATEVER THE INPUT: true; the input reads as it did. -/
def fnChainSpec : ChangeSpec := { name := "fnChain", fn := fun _ => fun
  | [d] => { results := [.lit (.bool true)], args := [d] }
  | _ => none }
def fnChainRow : OpenClaim := { program := "ytblabjfjhlablaagreatdoor", sum := "61a22a5ab6c18ddc61ba885d7361649c3bb0432dc6184d4fc4cd462cef8f9d19", func := "loop.example/pub-g03134/laws.FnChain", spec := "fnChain", inPlace := ["internal/bytealg.Compare", "internal/abi.NoEscape", "internal/bytealg.MakeNoZero", "internal/bytealg.IndexByteString", "unique.Make[net/netip.addrDetail]"], unfollowed := true, recurses := true, named := ["unicode/utf8.first", "unicode/utf8.acceptRanges", "unicode.CaseRanges", "net/netip.z4", "net/netip.z6noz", "net/netip.z0"], plainKeys := false, apart := false, laid := [("unicode/utf8.acceptRanges", laid_unicode_utf8_acceptRanges), ("net/netip.z4", laid_net_netip_z4), ("net/netip.z6noz", laid_net_netip_z6noz), ("net/netip.z0", laid_net_netip_z0), ("unicode.CaseRanges", laid_unicode_CaseRanges), ("unicode/utf8.first", laid_unicode_utf8_first)] }
def FnChainSaid : Prop := fnChainRow.holds Tryz.pinned (OpenSpec.ofChange fnChainSpec)

/-- ITS FALSE NEIGHBOUR: 'it returns false'. Refute it at one input. -/
def fnChainWrong : ChangeSpec := { name := "fnChain", fn := fun _ => fun
  | [d] => { results := [.lit (.bool false)], args := [d] }
  | _ => none }
def FnChainWrongFalsely : Prop := fnChainRow.holds Tryz.pinned (OpenSpec.ofChange fnChainWrong)

/-- 'laws.FnChainMore': WHATEVER THE INPUT: true; the input reads as it did. -/
def fnChainMoreSpec : ChangeSpec := { name := "fnChainMore", fn := fun _ => fun
  | [d1, d2, d3] => { results := [.lit (.bool true)], args := [d1, d2, d3] }
  | _ => none }
def fnChainMoreRow : OpenClaim := { program := "ytblabjfjhlablaagreatdoor", sum := "61a22a5ab6c18ddc61ba885d7361649c3bb0432dc6184d4fc4cd462cef8f9d19", func := "loop.example/pub-g03134/laws.FnChainMore", spec := "fnChainMore", inPlace := ["internal/bytealg.Compare", "internal/abi.NoEscape", "internal/bytealg.MakeNoZero", "internal/bytealg.IndexByteString", "unique.Make[net/netip.addrDetail]", "slices.overlaps[loop.example/pub-g03134/impl.Cert]"], unfollowed := true, recurses := true, named := ["unicode/utf8.first", "unicode/utf8.acceptRanges", "unicode.CaseRanges", "net/netip.z4", "net/netip.z6noz", "net/netip.z0"], plainKeys := false, apart := false, laid := [("unicode/utf8.acceptRanges", laid_unicode_utf8_acceptRanges), ("net/netip.z4", laid_net_netip_z4), ("net/netip.z6noz", laid_net_netip_z6noz), ("net/netip.z0", laid_net_netip_z0), ("unicode.CaseRanges", laid_unicode_CaseRanges), ("unicode/utf8.first", laid_unicode_utf8_first)] }
def FnChainMoreSaid : Prop := fnChainMoreRow.holds Tryz.pinned (OpenSpec.ofChange fnChainMoreSpec)

/-- ITS FALSE NEIGHBOUR: 'it returns false'. Refute it at one input. -/
def fnChainMoreWrong : ChangeSpec := { name := "fnChainMore", fn := fun _ => fun
  | [d1, d2, d3] => { results := [.lit (.bool false)], args := [d1, d2, d3] }
  | _ => none }
def FnChainMoreWrongFalsely : Prop := fnChainMoreRow.holds Tryz.pinned (OpenSpec.ofChange fnChainMoreWrong)

/- THE SECOND FORM. 'bulk': how many values and letters a reading holds, each counted each time it is reached (what is shared counts as often as it is met; a slice's spare places count too). A statement '..UptoSaid' is the law's where the arguments, and the package variables that the reading takes, are together of bulk at most 1048576: NARROWER than '..Said'. Prove '..Said' where nothing that the law and all that it calls make is longer than what came in: it says more and counts as full. Else prove '..UptoSaid'. A law counts once. -/
mutual
def uptoBulk {H : Type} : DataW H → Nat
  | .lit (.string bytes) => bytes.length + 1
  | .lit _ => 1
  | .nil => 1
  | .ptr d => uptoBulk d + 1
  | .slice elems spare => uptoBulkAll elems + uptoBulkAll spare + 1
  | .agg parts => uptoBulkAll parts + 1
  | .iface _ d => uptoBulk d + 1
  | .map entries => uptoBulkEntries entries + 1
  | .held _ => 1
def uptoBulkAll {H : Type} : List (DataW H) → Nat
  | [] => 0
  | d :: r => uptoBulk d + uptoBulkAll r
def uptoBulkEntries {H : Type} : List (Lit × DataW H) → Nat
  | [] => 0
  | x :: r => uptoBulkEntry x + uptoBulkEntries r
def uptoBulkEntry {H : Type} : Lit × DataW H → Nat
  | (.string bytes, d) => bytes.length + uptoBulk d + 1
  | (_, d) => uptoBulk d + 1
 end
def uptoSmall : (H : Type) → List (DataW H) → Bool := fun _ ds => decide (uptoBulkAll ds ≤ 1048576)
def OpenSpec.upto (s : _root_.Go.ChangeSpec) : _root_.Go.OpenSpec := { _root_.Go.OpenSpec.ofChange s with cond := some uptoSmall }

/-- 'laws.FnChainDNS', WHERE WHAT IT READS IS OF BULK AT MOST 1048576: true; the input reads as it did. -/
def fnChainDNSUptoRow : OpenClaim := { program := "ytblabjfjhlablaagreatdoor", sum := "61a22a5ab6c18ddc61ba885d7361649c3bb0432dc6184d4fc4cd462cef8f9d19", func := "loop.example/pub-g03134/laws.FnChainDNS", spec := "fnChainDNS", inPlace := ["internal/abi.NoEscape", "internal/bytealg.MakeNoZero", "internal/bytealg.IndexByteString", "internal/bytealg.Compare", "unique.Make[net/netip.addrDetail]"], unfollowed := true, recurses := true, named := ["unicode/utf8.first", "unicode/utf8.acceptRanges", "unicode.CaseRanges", "net/netip.z4", "net/netip.z6noz", "net/netip.z0"], plainKeys := false, apart := false, laid := [("unicode/utf8.acceptRanges", laid_unicode_utf8_acceptRanges), ("net/netip.z4", laid_net_netip_z4), ("net/netip.z6noz", laid_net_netip_z6noz), ("net/netip.z0", laid_net_netip_z0), ("unicode.CaseRanges", laid_unicode_CaseRanges), ("unicode/utf8.first", laid_unicode_utf8_first)], narrowed := true }
def FnChainDNSUptoSaid : Prop := fnChainDNSUptoRow.holds Tryz.pinned (OpenSpec.upto fnChainDNSSpec)

/-- 'laws.FnChainMail', WHERE WHAT IT READS IS OF BULK AT MOST 1048576: true; the input reads as it did. -/
def fnChainMailUptoRow : OpenClaim := { program := "ytblabjfjhlablaagreatdoor", sum := "61a22a5ab6c18ddc61ba885d7361649c3bb0432dc6184d4fc4cd462cef8f9d19", func := "loop.example/pub-g03134/laws.FnChainMail", spec := "fnChainMail", inPlace := ["internal/abi.NoEscape", "internal/bytealg.MakeNoZero", "internal/bytealg.IndexByteString", "internal/bytealg.Compare", "unique.Make[net/netip.addrDetail]"], unfollowed := true, recurses := true, named := ["unicode/utf8.first", "unicode/utf8.acceptRanges", "unicode.CaseRanges", "net/netip.z4", "net/netip.z6noz", "net/netip.z0"], plainKeys := false, apart := false, laid := [("unicode/utf8.acceptRanges", laid_unicode_utf8_acceptRanges), ("net/netip.z4", laid_net_netip_z4), ("net/netip.z6noz", laid_net_netip_z6noz), ("net/netip.z0", laid_net_netip_z0), ("unicode.CaseRanges", laid_unicode_CaseRanges), ("unicode/utf8.first", laid_unicode_utf8_first)], narrowed := true }
def FnChainMailUptoSaid : Prop := fnChainMailUptoRow.holds Tryz.pinned (OpenSpec.upto fnChainMailSpec)

/-- 'laws.FnChainOwn', WHERE WHAT IT READS IS OF BULK AT MOST 1048576: true; the input reads as it did. -/
def fnChainOwnUptoRow : OpenClaim := { program := "ytblabjfjhlablaagreatdoor", sum := "61a22a5ab6c18ddc61ba885d7361649c3bb0432dc6184d4fc4cd462cef8f9d19", func := "loop.example/pub-g03134/laws.FnChainOwn", spec := "fnChainOwn", inPlace := ["internal/bytealg.Compare", "internal/abi.NoEscape", "internal/bytealg.MakeNoZero", "internal/bytealg.IndexByteString", "unique.Make[net/netip.addrDetail]"], unfollowed := true, recurses := true, named := ["unicode/utf8.first", "unicode/utf8.acceptRanges", "unicode.CaseRanges", "net/netip.z4", "net/netip.z6noz", "net/netip.z0"], plainKeys := false, apart := false, laid := [("unicode/utf8.acceptRanges", laid_unicode_utf8_acceptRanges), ("net/netip.z4", laid_net_netip_z4), ("net/netip.z6noz", laid_net_netip_z6noz), ("net/netip.z0", laid_net_netip_z0), ("unicode.CaseRanges", laid_unicode_CaseRanges), ("unicode/utf8.first", laid_unicode_utf8_first)], narrowed := true }
def FnChainOwnUptoSaid : Prop := fnChainOwnUptoRow.holds Tryz.pinned (OpenSpec.upto fnChainOwnSpec)

/-- 'laws.FnChainURI', WHERE WHAT IT READS IS OF BULK AT MOST 1048576: true; the input reads as it did. -/
def fnChainURIUptoRow : OpenClaim := { program := "ytblabjfjhlablaagreatdoor", sum := "61a22a5ab6c18ddc61ba885d7361649c3bb0432dc6184d4fc4cd462cef8f9d19", func := "loop.example/pub-g03134/laws.FnChainURI", spec := "fnChainURI", inPlace := ["internal/abi.NoEscape", "internal/bytealg.MakeNoZero", "internal/bytealg.IndexByteString", "unique.Make[net/netip.addrDetail]", "internal/bytealg.Compare"], unfollowed := true, recurses := true, named := ["unicode/utf8.first", "unicode/utf8.acceptRanges", "unicode.CaseRanges", "net/netip.z4", "net/netip.z6noz", "net/netip.z0"], plainKeys := false, apart := false, laid := [("unicode/utf8.acceptRanges", laid_unicode_utf8_acceptRanges), ("net/netip.z4", laid_net_netip_z4), ("net/netip.z6noz", laid_net_netip_z6noz), ("net/netip.z0", laid_net_netip_z0), ("unicode.CaseRanges", laid_unicode_CaseRanges), ("unicode/utf8.first", laid_unicode_utf8_first)], narrowed := true }
def FnChainURIUptoSaid : Prop := fnChainURIUptoRow.holds Tryz.pinned (OpenSpec.upto fnChainURISpec)

/-- 'laws.FnChainOrder', WHERE WHAT IT READS IS OF BULK AT MOST 1048576: true; the input reads as it did. -/
def fnChainOrderUptoRow : OpenClaim := { program := "ytblabjfjhlablaagreatdoor", sum := "61a22a5ab6c18ddc61ba885d7361649c3bb0432dc6184d4fc4cd462cef8f9d19", func := "loop.example/pub-g03134/laws.FnChainOrder", spec := "fnChainOrder", inPlace := ["internal/bytealg.Compare", "internal/abi.NoEscape", "internal/bytealg.MakeNoZero", "internal/bytealg.IndexByteString", "unique.Make[net/netip.addrDetail]"], unfollowed := true, recurses := true, named := ["unicode/utf8.first", "unicode/utf8.acceptRanges", "unicode.CaseRanges", "net/netip.z4", "net/netip.z6noz", "net/netip.z0"], plainKeys := false, apart := false, laid := [("unicode/utf8.acceptRanges", laid_unicode_utf8_acceptRanges), ("net/netip.z4", laid_net_netip_z4), ("net/netip.z6noz", laid_net_netip_z6noz), ("net/netip.z0", laid_net_netip_z0), ("unicode.CaseRanges", laid_unicode_CaseRanges), ("unicode/utf8.first", laid_unicode_utf8_first)], narrowed := true }
def FnChainOrderUptoSaid : Prop := fnChainOrderUptoRow.holds Tryz.pinned (OpenSpec.upto fnChainOrderSpec)

/-- 'laws.FnChainIP', WHERE WHAT IT READS IS OF BULK AT MOST 1048576: true; the input reads as it did. -/
def fnChainIPUptoRow : OpenClaim := { program := "ytblabjfjhlablaagreatdoor", sum := "61a22a5ab6c18ddc61ba885d7361649c3bb0432dc6184d4fc4cd462cef8f9d19", func := "loop.example/pub-g03134/laws.FnChainIP", spec := "fnChainIP", inPlace := ["internal/bytealg.Compare", "internal/abi.NoEscape", "internal/bytealg.MakeNoZero", "internal/bytealg.IndexByteString", "unique.Make[net/netip.addrDetail]"], unfollowed := true, recurses := true, named := ["unicode/utf8.first", "unicode/utf8.acceptRanges", "unicode.CaseRanges", "net/netip.z4", "net/netip.z6noz", "net/netip.z0"], plainKeys := false, apart := false, laid := [("unicode/utf8.acceptRanges", laid_unicode_utf8_acceptRanges), ("net/netip.z4", laid_net_netip_z4), ("net/netip.z6noz", laid_net_netip_z6noz), ("net/netip.z0", laid_net_netip_z0), ("unicode.CaseRanges", laid_unicode_CaseRanges), ("unicode/utf8.first", laid_unicode_utf8_first)], narrowed := true }
def FnChainIPUptoSaid : Prop := fnChainIPUptoRow.holds Tryz.pinned (OpenSpec.upto fnChainIPSpec)

/-- 'laws.FnChain', WHERE WHAT IT READS IS OF BULK AT MOST 1048576: true; the input reads as it did. -/
def fnChainUptoRow : OpenClaim := { program := "ytblabjfjhlablaagreatdoor", sum := "61a22a5ab6c18ddc61ba885d7361649c3bb0432dc6184d4fc4cd462cef8f9d19", func := "loop.example/pub-g03134/laws.FnChain", spec := "fnChain", inPlace := ["internal/bytealg.Compare", "internal/abi.NoEscape", "internal/bytealg.MakeNoZero", "internal/bytealg.IndexByteString", "unique.Make[net/netip.addrDetail]"], unfollowed := true, recurses := true, named := ["unicode/utf8.first", "unicode/utf8.acceptRanges", "unicode.CaseRanges", "net/netip.z4", "net/netip.z6noz", "net/netip.z0"], plainKeys := false, apart := false, laid := [("unicode/utf8.acceptRanges", laid_unicode_utf8_acceptRanges), ("net/netip.z4", laid_net_netip_z4), ("net/netip.z6noz", laid_net_netip_z6noz), ("net/netip.z0", laid_net_netip_z0), ("unicode.CaseRanges", laid_unicode_CaseRanges), ("unicode/utf8.first", laid_unicode_utf8_first)], narrowed := true }
def FnChainUptoSaid : Prop := fnChainUptoRow.holds Tryz.pinned (OpenSpec.upto fnChainSpec)

/-- 'laws.FnChainMore', WHERE WHAT IT READS IS OF BULK AT MOST 1048576: true; the input reads as it did. -/
def fnChainMoreUptoRow : OpenClaim := { program := "ytblabjfjhlablaagreatdoor", sum := "61a22a5ab6c18ddc61ba885d7361649c3bb0432dc6184d4fc4cd462cef8f9d19", func := "loop.example/pub-g03134/laws.FnChainMore", spec := "fnChainMore", inPlace := ["internal/bytealg.Compare", "internal/abi.NoEscape", "internal/bytealg.MakeNoZero", "internal/bytealg.IndexByteString", "unique.Make[net/netip.addrDetail]", "slices.overlaps[loop.example/pub-g03134/impl.Cert]"], unfollowed := true, recurses := true, named := ["unicode/utf8.first", "unicode/utf8.acceptRanges", "unicode.CaseRanges", "net/netip.z4", "net/netip.z6noz", "net/netip.z0"], plainKeys := false, apart := false, laid := [("unicode/utf8.acceptRanges", laid_unicode_utf8_acceptRanges), ("net/netip.z4", laid_net_netip_z4), ("net/netip.z6noz", laid_net_netip_z6noz), ("net/netip.z0", laid_net_netip_z0), ("unicode.CaseRanges", laid_unicode_CaseRanges), ("unicode/utf8.first", laid_unicode_utf8_first)], narrowed := true }
def FnChainMoreUptoSaid : Prop := fnChainMoreUptoRow.holds Tryz.pinned (OpenSpec.upto fnChainMoreSpec)

end Rows
end Go.Proofs.YtblabjfjhlablaaGreatDoor
