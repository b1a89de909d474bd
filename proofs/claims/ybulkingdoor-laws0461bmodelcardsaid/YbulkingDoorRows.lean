/-
  NARROWER THAN 'FOR EVERY INPUT', by the rows' own cells (each row's printed sentence says how): LawS0461BModel: laid · LawS0461BIdem: laid · LawS0461CPieces: laid · LawS0461CRaw: laid.
  DERIVED. THE GIVEN ROWS OF THIS SEAT. 4 by the template 'for every input the law returns true; each argument reads behind the call as it read before'; 0 by the template 'total and deterministic' (their statements: YbulkingDoorTotals.lean).
  GIVEN WITH THE SEED: the statements are not yours to turn. If you find one false, say at which input.
  Laid BY PROGRAM, IN A SANDBOX (cutbox-rows.mjs): the forced cells as the released guide's own fill.sh prints them over the translation 835ffa522b15fa2f… (all of the seat's roots in one cut). By AI agents, Wed Nov 11 2026. No macro, syntax, notation, axiom, sorry.
-/
import Derived.Test.YbulkingDoorChecked
import GoSem.PinnedTables
import GoSem.Claim
import GoSem.ClaimJoined
import GoSem.ClaimMapViews
import Derived.JoinedTies
import Derived.KernelRfl
namespace Go.Proofs.YbulkingDoor
/- THE CELL 'sum', in the pinned program and in every row, IS THE sha256 OF THE DUMP (.gsa) THAT YbulkingDoorProg.lean LOADS. Nothing in Lean hashes anything: it is a label: what it is worth is what the hold of that sum in a sandbox is worth. -/
noncomputable def Ybad.pinned : Pinned := { name := "ybulkingdoor", sum := "835ffa522b15fa2fa538b5f6e4bf82a019193602160a58915a92b3f8bb0140e9", checked := Ybad.checked }
namespace Rows
def none {H : Type} : Left H := { results := [], args := [] }

/- WHAT THE LISTED PACKAGE-LEVEL VARIABLES READ AS WHEN THE CALL BEGINS. Each datum BY PROGRAM (the guide's laid-datum.mjs) off the statement by which the dump's own 'gosem.cut.vars' lays the variable. In a bare row this is a premise. The card (YbulkingDoorCards.lean) ties it to the program's text. -/
def laid_net_netip_z4 {H : Type} : DataW H := .agg [.ptr (.agg [.lit (.bool false), .lit (.string [])])]
def laid_net_netip_z6noz {H : Type} : DataW H := .agg [.ptr (.agg [.lit (.bool true), .lit (.string [])])]
def laid_net_netip_z0 {H : Type} : DataW H := .agg [.nil]
def laid_unicode_utf8_acceptRanges {H : Type} : DataW H := .agg [.agg [.lit (.int .u8 128), .lit (.int .u8 191)], .agg [.lit (.int .u8 160), .lit (.int .u8 191)], .agg [.lit (.int .u8 128), .lit (.int .u8 159)], .agg [.lit (.int .u8 144), .lit (.int .u8 191)], .agg [.lit (.int .u8 128), .lit (.int .u8 143)], .agg [.lit (.int .u8 0), .lit (.int .u8 0)], .agg [.lit (.int .u8 0), .lit (.int .u8 0)], .agg [.lit (.int .u8 0), .lit (.int .u8 0)], .agg [.lit (.int .u8 0), .lit (.int .u8 0)], .agg [.lit (.int .u8 0), .lit (.int .u8 0)], .agg [.lit (.int .u8 0), .lit (.int .u8 0)], .agg [.lit (.int .u8 0), .lit (.int .u8 0)], .agg [.lit (.int .u8 0), .lit (.int .u8 0)], .agg [.lit (.int .u8 0), .lit (.int .u8 0)], .agg [.lit (.int .u8 0), .lit (.int .u8 0)], .agg [.lit (.int .u8 0), .lit (.int .u8 0)]]
def laid_unicode_White_Space {H : Type} : DataW H := .ptr (.agg [.slice [.agg [.lit (.int .u16 9), .lit (.int .u16 13), .lit (.int .u16 1)], .agg [.lit (.int .u16 32), .lit (.int .u16 133), .lit (.int .u16 101)], .agg [.lit (.int .u16 160), .lit (.int .u16 5760), .lit (.int .u16 5600)], .agg [.lit (.int .u16 8192), .lit (.int .u16 8202), .lit (.int .u16 1)], .agg [.lit (.int .u16 8232), .lit (.int .u16 8233), .lit (.int .u16 1)], .agg [.lit (.int .u16 8239), .lit (.int .u16 8287), .lit (.int .u16 48)], .agg [.lit (.int .u16 12288), .lit (.int .u16 12288), .lit (.int .u16 1)]] [], .nil, .lit (.int .i64 2)])
def laid_example_com_geoscout_geoscout_feed_asciiSpace {H : Type} : DataW H := .agg [.lit (.bool false), .lit (.bool false), .lit (.bool false), .lit (.bool false), .lit (.bool false), .lit (.bool false), .lit (.bool false), .lit (.bool false), .lit (.bool false), .lit (.bool true), .lit (.bool true), .lit (.bool true), .lit (.bool true), .lit (.bool true), .lit (.bool false), .lit (.bool false), .lit (.bool false), .lit (.bool false), .lit (.bool false), .lit (.bool false), .lit (.bool false), .lit (.bool false), .lit (.bool false), .lit (.bool false), .lit (.bool false), .lit (.bool false), .lit (.bool false), .lit (.bool false), .lit (.bool false), .lit (.bool false), .lit (.bool false), .lit (.bool false), .lit (.bool true), .lit (.bool false), .lit (.bool false), .lit (.bool false), .lit (.bool false), .lit (.bool false), .lit (.bool false), .lit (.bool false), .lit (.bool false), .lit (.bool false), .lit (.bool false), .lit (.bool false), .lit (.bool false), .lit (.bool false), .lit (.bool false), .lit (.bool false), .lit (.bool false), .lit (.bool false), .lit (.bool false), .lit (.bool false), .lit (.bool false), .lit (.bool false), .lit (.bool false), .lit (.bool false), .lit (.bool false), .lit (.bool false), .lit (.bool false), .lit (.bool false), .lit (.bool false), .lit (.bool false), .lit (.bool false), .lit (.bool false), .lit (.bool false), .lit (.bool false), .lit (.bool false), .lit (.bool false), .lit (.bool false), .lit (.bool false), .lit (.bool false), .lit (.bool false), .lit (.bool false), .lit (.bool false), .lit (.bool false), .lit (.bool false), .lit (.bool false), .lit (.bool false), .lit (.bool false), .lit (.bool false), .lit (.bool false), .lit (.bool false), .lit (.bool false), .lit (.bool false), .lit (.bool false), .lit (.bool false), .lit (.bool false), .lit (.bool false), .lit (.bool false), .lit (.bool false), .lit (.bool false), .lit (.bool false), .lit (.bool false), .lit (.bool false), .lit (.bool false), .lit (.bool false), .lit (.bool false), .lit (.bool false), .lit (.bool false), .lit (.bool false), .lit (.bool false), .lit (.bool false), .lit (.bool false), .lit (.bool false), .lit (.bool false), .lit (.bool false), .lit (.bool false), .lit (.bool false), .lit (.bool false), .lit (.bool false), .lit (.bool false), .lit (.bool false), .lit (.bool false), .lit (.bool false), .lit (.bool false), .lit (.bool false), .lit (.bool false), .lit (.bool false), .lit (.bool false), .lit (.bool false), .lit (.bool false), .lit (.bool false), .lit (.bool false), .lit (.bool false), .lit (.bool false), .lit (.bool false), .lit (.bool false), .lit (.bool false)]
/-- One of Go's own tables, pinned by name: the form's constant. -/
def laid_unicode_utf8_first : DataW Unit := Go.Pinned.utf8First

/-- 'iprange.LawS0461BModel': WHATEVER THE INPUT: true; the input reads as it did. -/
def lawS0461BModelSpec : ChangeSpec := { name := "lawS0461BModel", fn := fun _ => fun
  | [d] => { results := [.lit (.bool true)], args := [d] }
  | _ => none }
def lawS0461BModelRow : OpenClaim := { program := "ybulkingdoor", sum := "835ffa522b15fa2fa538b5f6e4bf82a019193602160a58915a92b3f8bb0140e9", func := "example.com/geoscout/geoscout/iprange.LawS0461BModel", spec := "lawS0461BModel", inPlace := ["math/bits.Add64"], unfollowed := true, recurses := true, named := ["net/netip.z6noz", "net/netip.z4", "net/netip.z0"], apart := false, laid := [("net/netip.z4", laid_net_netip_z4), ("net/netip.z6noz", laid_net_netip_z6noz), ("net/netip.z0", laid_net_netip_z0)] }
def LawS0461BModelSaid : Prop := lawS0461BModelRow.holds Ybad.pinned (OpenSpec.ofChange lawS0461BModelSpec)

/-- ITS FALSE NEIGHBOUR: 'it returns false'. Refute it at one input. -/
def lawS0461BModelWrong : ChangeSpec := { name := "lawS0461BModel", fn := fun _ => fun
  | [d] => { results := [.lit (.bool false)], args := [d] }
  | _ => none }
def LawS0461BModelWrongFalsely : Prop := lawS0461BModelRow.holds Ybad.pinned (OpenSpec.ofChange lawS0461BModelWrong)

/-- 'iprange.LawS0461BIdem': WHATEVER THE INPUT: true; the input reads as it did. -/
def lawS0461BIdemSpec : ChangeSpec := { name := "lawS0461BIdem", fn := fun _ => fun
  | [d] => { results := [.lit (.bool true)], args := [d] }
  | _ => none }
def lawS0461BIdemRow : OpenClaim := { program := "ybulkingdoor", sum := "835ffa522b15fa2fa538b5f6e4bf82a019193602160a58915a92b3f8bb0140e9", func := "example.com/geoscout/geoscout/iprange.LawS0461BIdem", spec := "lawS0461BIdem", inPlace := ["math/bits.Add64"], unfollowed := true, recurses := true, named := ["net/netip.z6noz", "net/netip.z4", "net/netip.z0"], apart := false, laid := [("net/netip.z4", laid_net_netip_z4), ("net/netip.z6noz", laid_net_netip_z6noz), ("net/netip.z0", laid_net_netip_z0)] }
def LawS0461BIdemSaid : Prop := lawS0461BIdemRow.holds Ybad.pinned (OpenSpec.ofChange lawS0461BIdemSpec)

/-- ITS FALSE NEIGHBOUR: 'it returns false'. Refute it at one input. -/
def lawS0461BIdemWrong : ChangeSpec := { name := "lawS0461BIdem", fn := fun _ => fun
  | [d] => { results := [.lit (.bool false)], args := [d] }
  | _ => none }
def LawS0461BIdemWrongFalsely : Prop := lawS0461BIdemRow.holds Ybad.pinned (OpenSpec.ofChange lawS0461BIdemWrong)

/-- 'feed.LawS0461CPieces': WHATEVER THE INPUT: true; the input reads as it did. -/
def lawS0461CPiecesSpec : ChangeSpec := { name := "lawS0461CPieces", vars := ["example.com/geoscout/geoscout/feed.asciiSpace"], fn := fun _ => fun
  | [d1, d2, g1] => { results := [.lit (.bool true)], args := [d1, d2], vars := [g1] }
  | _ => none }
def lawS0461CPiecesRow : OpenClaim := { program := "ybulkingdoor", sum := "835ffa522b15fa2fa538b5f6e4bf82a019193602160a58915a92b3f8bb0140e9", func := "example.com/geoscout/geoscout/feed.LawS0461CPieces", spec := "lawS0461CPieces", inPlace := ["internal/bytealg.IndexByte"], unfollowed := true, recurses := true, named := ["example.com/geoscout/geoscout/feed.asciiSpace", "unicode/utf8.first", "unicode/utf8.acceptRanges", "unicode.White_Space"], apart := false, laid := [("unicode/utf8.acceptRanges", laid_unicode_utf8_acceptRanges), ("unicode.White_Space", laid_unicode_White_Space), ("example.com/geoscout/geoscout/feed.asciiSpace", laid_example_com_geoscout_geoscout_feed_asciiSpace), ("unicode/utf8.first", laid_unicode_utf8_first)] }
def LawS0461CPiecesSaid : Prop := lawS0461CPiecesRow.holds Ybad.pinned (OpenSpec.ofChange lawS0461CPiecesSpec)

/-- ITS FALSE NEIGHBOUR: 'it returns false'. Refute it at one input. -/
def lawS0461CPiecesWrong : ChangeSpec := { name := "lawS0461CPieces", vars := ["example.com/geoscout/geoscout/feed.asciiSpace"], fn := fun _ => fun
  | [d1, d2, g1] => { results := [.lit (.bool false)], args := [d1, d2], vars := [g1] }
  | _ => none }
def LawS0461CPiecesWrongFalsely : Prop := lawS0461CPiecesRow.holds Ybad.pinned (OpenSpec.ofChange lawS0461CPiecesWrong)

/-- 'feed.LawS0461CRaw': WHATEVER THE INPUT: true; the input reads as it did. -/
def lawS0461CRawSpec : ChangeSpec := { name := "lawS0461CRaw", vars := ["example.com/geoscout/geoscout/feed.asciiSpace"], fn := fun _ => fun
  | [d, g1] => { results := [.lit (.bool true)], args := [d], vars := [g1] }
  | _ => none }
def lawS0461CRawRow : OpenClaim := { program := "ybulkingdoor", sum := "835ffa522b15fa2fa538b5f6e4bf82a019193602160a58915a92b3f8bb0140e9", func := "example.com/geoscout/geoscout/feed.LawS0461CRaw", spec := "lawS0461CRaw", inPlace := ["internal/bytealg.IndexByte"], unfollowed := true, recurses := true, named := ["example.com/geoscout/geoscout/feed.asciiSpace", "unicode/utf8.first", "unicode/utf8.acceptRanges", "unicode.White_Space"], apart := false, laid := [("unicode/utf8.acceptRanges", laid_unicode_utf8_acceptRanges), ("unicode.White_Space", laid_unicode_White_Space), ("example.com/geoscout/geoscout/feed.asciiSpace", laid_example_com_geoscout_geoscout_feed_asciiSpace), ("unicode/utf8.first", laid_unicode_utf8_first)] }
def LawS0461CRawSaid : Prop := lawS0461CRawRow.holds Ybad.pinned (OpenSpec.ofChange lawS0461CRawSpec)

/-- ITS FALSE NEIGHBOUR: 'it returns false'. Refute it at one input. -/
def lawS0461CRawWrong : ChangeSpec := { name := "lawS0461CRaw", vars := ["example.com/geoscout/geoscout/feed.asciiSpace"], fn := fun _ => fun
  | [d, g1] => { results := [.lit (.bool false)], args := [d], vars := [g1] }
  | _ => none }
def LawS0461CRawWrongFalsely : Prop := lawS0461CRawRow.holds Ybad.pinned (OpenSpec.ofChange lawS0461CRawWrong)

end Rows
end Go.Proofs.YbulkingDoor
