/-
  NARROWER THAN 'FOR EVERY INPUT', by the rows' own cells (each row's printed sentence says how): FnPartRaw: laid · FnPartRawOpen: laid · FnPartLineRemark: laid · FnPartRemark: laid · FnPartEscape: laid · FnPartString: laid · FnPartStringOpen: laid · FnPartRune: laid · FnPartRuneOpen: laid · FnPartBadNumber: laid · FnPartNumber: laid · FnPartPoint: laid · FnPartKeyword: laid · FnPartName: laid.
  DERIVED. THE GIVEN ROWS OF THIS SEAT. 14 by the template 'for every input the law returns true; each argument reads behind the call as it read before'; 0 by the template 'total and deterministic' (their statements: YtnehkpoggkfikaaDoorTotals.lean).
  GIVEN WITH THE SEED: the statements are not yours to turn. If you find one false, say at which input.
  Laid BY PROGRAM, IN A SANDBOX (cutbox-rows.mjs): the forced cells as the released guide's own fill.sh prints them over the translation ff33b3de387280c5… (all of the seat's roots in one cut). By AI agents, Wed Nov 11 2026. No macro, syntax, notation, axiom, sorry.
-/
import Derived.Test.YtnehkpoggkfikaaDoorChecked
import GoSem.PinnedTables
import GoSem.Claim
import GoSem.ClaimJoined
import GoSem.ClaimMapViews
import Derived.JoinedTies
import Derived.KernelRfl
namespace Go.Proofs.YtnehkpoggkfikaaDoor
/- THE CELL 'sum', in the pinned program and in every row, IS THE sha256 OF THE DUMP (.gsa) THAT YtnehkpoggkfikaaDoorProg.lean LOADS. Nothing in Lean hashes anything: it is a label: what it is worth is what the hold of that sum in a sandbox is worth. -/
noncomputable def Tryd.pinned : Pinned := { name := "ytnehkpoggkfikaadoor", sum := "ff33b3de387280c569d810b6d4e76cdf62373a422ef38ae486b2a054c19bae43", checked := Tryd.checked }
namespace Rows
def none {H : Type} : Left H := { results := [], args := [] }

/- WHAT THE LISTED PACKAGE-LEVEL VARIABLES READ AS WHEN THE CALL BEGINS. Each datum BY PROGRAM (the guide's laid-datum.mjs) off the statement by which the dump's own 'gosem.cut.vars' lays the variable. In a bare row this is a premise. The card (YtnehkpoggkfikaaDoorCards.lean) ties it to the program's text. -/
def laid_unicode_utf8_acceptRanges {H : Type} : DataW H := .agg [.agg [.lit (.int .u8 128), .lit (.int .u8 191)], .agg [.lit (.int .u8 160), .lit (.int .u8 191)], .agg [.lit (.int .u8 128), .lit (.int .u8 159)], .agg [.lit (.int .u8 144), .lit (.int .u8 191)], .agg [.lit (.int .u8 128), .lit (.int .u8 143)], .agg [.lit (.int .u8 0), .lit (.int .u8 0)], .agg [.lit (.int .u8 0), .lit (.int .u8 0)], .agg [.lit (.int .u8 0), .lit (.int .u8 0)], .agg [.lit (.int .u8 0), .lit (.int .u8 0)], .agg [.lit (.int .u8 0), .lit (.int .u8 0)], .agg [.lit (.int .u8 0), .lit (.int .u8 0)], .agg [.lit (.int .u8 0), .lit (.int .u8 0)], .agg [.lit (.int .u8 0), .lit (.int .u8 0)], .agg [.lit (.int .u8 0), .lit (.int .u8 0)], .agg [.lit (.int .u8 0), .lit (.int .u8 0)], .agg [.lit (.int .u8 0), .lit (.int .u8 0)]]
def laid_io_EOF {H : Type} : DataW H := .iface "*errors.errorString" (.ptr (.agg [.lit (.string [69, 79, 70])]))
def laid_io_ErrNoProgress {H : Type} : DataW H := .iface "*errors.errorString" (.ptr (.agg [.lit (.string [109, 117, 108, 116, 105, 112, 108, 101, 32, 82, 101, 97, 100, 32, 99, 97, 108, 108, 115, 32, 114, 101, 116, 117, 114, 110, 32, 110, 111, 32, 100, 97, 116, 97, 32, 111, 114, 32, 101, 114, 114, 111, 114])]))
/-- One of Go's own tables, pinned by name: the form's constant. -/
def laid_unicode_utf8_first : DataW Unit := Go.Pinned.utf8First
def laid_math_bits_deBruijn32tab {H : Type} : DataW H := .agg [.lit (.int .u8 0), .lit (.int .u8 1), .lit (.int .u8 28), .lit (.int .u8 2), .lit (.int .u8 29), .lit (.int .u8 14), .lit (.int .u8 24), .lit (.int .u8 3), .lit (.int .u8 30), .lit (.int .u8 22), .lit (.int .u8 20), .lit (.int .u8 15), .lit (.int .u8 25), .lit (.int .u8 17), .lit (.int .u8 4), .lit (.int .u8 8), .lit (.int .u8 31), .lit (.int .u8 27), .lit (.int .u8 13), .lit (.int .u8 23), .lit (.int .u8 21), .lit (.int .u8 19), .lit (.int .u8 16), .lit (.int .u8 7), .lit (.int .u8 26), .lit (.int .u8 12), .lit (.int .u8 18), .lit (.int .u8 6), .lit (.int .u8 11), .lit (.int .u8 5), .lit (.int .u8 10), .lit (.int .u8 9)]
def laid_math_bits_deBruijn64tab {H : Type} : DataW H := .agg [.lit (.int .u8 0), .lit (.int .u8 1), .lit (.int .u8 56), .lit (.int .u8 2), .lit (.int .u8 57), .lit (.int .u8 49), .lit (.int .u8 28), .lit (.int .u8 3), .lit (.int .u8 61), .lit (.int .u8 58), .lit (.int .u8 42), .lit (.int .u8 50), .lit (.int .u8 38), .lit (.int .u8 29), .lit (.int .u8 17), .lit (.int .u8 4), .lit (.int .u8 62), .lit (.int .u8 47), .lit (.int .u8 59), .lit (.int .u8 36), .lit (.int .u8 45), .lit (.int .u8 43), .lit (.int .u8 51), .lit (.int .u8 22), .lit (.int .u8 53), .lit (.int .u8 39), .lit (.int .u8 33), .lit (.int .u8 30), .lit (.int .u8 24), .lit (.int .u8 18), .lit (.int .u8 12), .lit (.int .u8 5), .lit (.int .u8 63), .lit (.int .u8 55), .lit (.int .u8 48), .lit (.int .u8 27), .lit (.int .u8 60), .lit (.int .u8 41), .lit (.int .u8 37), .lit (.int .u8 16), .lit (.int .u8 46), .lit (.int .u8 35), .lit (.int .u8 44), .lit (.int .u8 21), .lit (.int .u8 52), .lit (.int .u8 32), .lit (.int .u8 23), .lit (.int .u8 11), .lit (.int .u8 54), .lit (.int .u8 26), .lit (.int .u8 40), .lit (.int .u8 15), .lit (.int .u8 34), .lit (.int .u8 20), .lit (.int .u8 31), .lit (.int .u8 10), .lit (.int .u8 25), .lit (.int .u8 14), .lit (.int .u8 19), .lit (.int .u8 9), .lit (.int .u8 13), .lit (.int .u8 8), .lit (.int .u8 7), .lit (.int .u8 6)]
def laid_internal_strconv_uint64pow10 {H : Type} : DataW H := .agg [.lit (.int .u64 1), .lit (.int .u64 10), .lit (.int .u64 100), .lit (.int .u64 1000), .lit (.int .u64 10000), .lit (.int .u64 100000), .lit (.int .u64 1000000), .lit (.int .u64 10000000), .lit (.int .u64 100000000), .lit (.int .u64 1000000000), .lit (.int .u64 10000000000), .lit (.int .u64 100000000000), .lit (.int .u64 1000000000000), .lit (.int .u64 10000000000000), .lit (.int .u64 100000000000000), .lit (.int .u64 1000000000000000), .lit (.int .u64 10000000000000000), .lit (.int .u64 100000000000000000), .lit (.int .u64 1000000000000000000), .lit (.int .u64 10000000000000000000)]
def laid_unicode_properties {H : Type} : DataW H := .agg [.lit (.int .u8 1), .lit (.int .u8 1), .lit (.int .u8 1), .lit (.int .u8 1), .lit (.int .u8 1), .lit (.int .u8 1), .lit (.int .u8 1), .lit (.int .u8 1), .lit (.int .u8 1), .lit (.int .u8 1), .lit (.int .u8 1), .lit (.int .u8 1), .lit (.int .u8 1), .lit (.int .u8 1), .lit (.int .u8 1), .lit (.int .u8 1), .lit (.int .u8 1), .lit (.int .u8 1), .lit (.int .u8 1), .lit (.int .u8 1), .lit (.int .u8 1), .lit (.int .u8 1), .lit (.int .u8 1), .lit (.int .u8 1), .lit (.int .u8 1), .lit (.int .u8 1), .lit (.int .u8 1), .lit (.int .u8 1), .lit (.int .u8 1), .lit (.int .u8 1), .lit (.int .u8 1), .lit (.int .u8 1), .lit (.int .u8 144), .lit (.int .u8 130), .lit (.int .u8 130), .lit (.int .u8 130), .lit (.int .u8 136), .lit (.int .u8 130), .lit (.int .u8 130), .lit (.int .u8 130), .lit (.int .u8 130), .lit (.int .u8 130), .lit (.int .u8 130), .lit (.int .u8 136), .lit (.int .u8 130), .lit (.int .u8 130), .lit (.int .u8 130), .lit (.int .u8 130), .lit (.int .u8 132), .lit (.int .u8 132), .lit (.int .u8 132), .lit (.int .u8 132), .lit (.int .u8 132), .lit (.int .u8 132), .lit (.int .u8 132), .lit (.int .u8 132), .lit (.int .u8 132), .lit (.int .u8 132), .lit (.int .u8 130), .lit (.int .u8 130), .lit (.int .u8 136), .lit (.int .u8 136), .lit (.int .u8 136), .lit (.int .u8 130), .lit (.int .u8 130), .lit (.int .u8 160), .lit (.int .u8 160), .lit (.int .u8 160), .lit (.int .u8 160), .lit (.int .u8 160), .lit (.int .u8 160), .lit (.int .u8 160), .lit (.int .u8 160), .lit (.int .u8 160), .lit (.int .u8 160), .lit (.int .u8 160), .lit (.int .u8 160), .lit (.int .u8 160), .lit (.int .u8 160), .lit (.int .u8 160), .lit (.int .u8 160), .lit (.int .u8 160), .lit (.int .u8 160), .lit (.int .u8 160), .lit (.int .u8 160), .lit (.int .u8 160), .lit (.int .u8 160), .lit (.int .u8 160), .lit (.int .u8 160), .lit (.int .u8 160), .lit (.int .u8 160), .lit (.int .u8 130), .lit (.int .u8 130), .lit (.int .u8 130), .lit (.int .u8 136), .lit (.int .u8 130), .lit (.int .u8 136), .lit (.int .u8 192), .lit (.int .u8 192), .lit (.int .u8 192), .lit (.int .u8 192), .lit (.int .u8 192), .lit (.int .u8 192), .lit (.int .u8 192), .lit (.int .u8 192), .lit (.int .u8 192), .lit (.int .u8 192), .lit (.int .u8 192), .lit (.int .u8 192), .lit (.int .u8 192), .lit (.int .u8 192), .lit (.int .u8 192), .lit (.int .u8 192), .lit (.int .u8 192), .lit (.int .u8 192), .lit (.int .u8 192), .lit (.int .u8 192), .lit (.int .u8 192), .lit (.int .u8 192), .lit (.int .u8 192), .lit (.int .u8 192), .lit (.int .u8 192), .lit (.int .u8 192), .lit (.int .u8 130), .lit (.int .u8 136), .lit (.int .u8 130), .lit (.int .u8 136), .lit (.int .u8 1), .lit (.int .u8 1), .lit (.int .u8 1), .lit (.int .u8 1), .lit (.int .u8 1), .lit (.int .u8 1), .lit (.int .u8 1), .lit (.int .u8 1), .lit (.int .u8 1), .lit (.int .u8 1), .lit (.int .u8 1), .lit (.int .u8 1), .lit (.int .u8 1), .lit (.int .u8 1), .lit (.int .u8 1), .lit (.int .u8 1), .lit (.int .u8 1), .lit (.int .u8 1), .lit (.int .u8 1), .lit (.int .u8 1), .lit (.int .u8 1), .lit (.int .u8 1), .lit (.int .u8 1), .lit (.int .u8 1), .lit (.int .u8 1), .lit (.int .u8 1), .lit (.int .u8 1), .lit (.int .u8 1), .lit (.int .u8 1), .lit (.int .u8 1), .lit (.int .u8 1), .lit (.int .u8 1), .lit (.int .u8 1), .lit (.int .u8 16), .lit (.int .u8 130), .lit (.int .u8 136), .lit (.int .u8 136), .lit (.int .u8 136), .lit (.int .u8 136), .lit (.int .u8 136), .lit (.int .u8 130), .lit (.int .u8 136), .lit (.int .u8 136), .lit (.int .u8 224), .lit (.int .u8 130), .lit (.int .u8 136), .lit (.int .u8 0), .lit (.int .u8 136), .lit (.int .u8 136), .lit (.int .u8 136), .lit (.int .u8 136), .lit (.int .u8 132), .lit (.int .u8 132), .lit (.int .u8 136), .lit (.int .u8 192), .lit (.int .u8 130), .lit (.int .u8 130), .lit (.int .u8 136), .lit (.int .u8 132), .lit (.int .u8 224), .lit (.int .u8 130), .lit (.int .u8 132), .lit (.int .u8 132), .lit (.int .u8 132), .lit (.int .u8 130), .lit (.int .u8 160), .lit (.int .u8 160), .lit (.int .u8 160), .lit (.int .u8 160), .lit (.int .u8 160), .lit (.int .u8 160), .lit (.int .u8 160), .lit (.int .u8 160), .lit (.int .u8 160), .lit (.int .u8 160), .lit (.int .u8 160), .lit (.int .u8 160), .lit (.int .u8 160), .lit (.int .u8 160), .lit (.int .u8 160), .lit (.int .u8 160), .lit (.int .u8 160), .lit (.int .u8 160), .lit (.int .u8 160), .lit (.int .u8 160), .lit (.int .u8 160), .lit (.int .u8 160), .lit (.int .u8 160), .lit (.int .u8 136), .lit (.int .u8 160), .lit (.int .u8 160), .lit (.int .u8 160), .lit (.int .u8 160), .lit (.int .u8 160), .lit (.int .u8 160), .lit (.int .u8 160), .lit (.int .u8 192), .lit (.int .u8 192), .lit (.int .u8 192), .lit (.int .u8 192), .lit (.int .u8 192), .lit (.int .u8 192), .lit (.int .u8 192), .lit (.int .u8 192), .lit (.int .u8 192), .lit (.int .u8 192), .lit (.int .u8 192), .lit (.int .u8 192), .lit (.int .u8 192), .lit (.int .u8 192), .lit (.int .u8 192), .lit (.int .u8 192), .lit (.int .u8 192), .lit (.int .u8 192), .lit (.int .u8 192), .lit (.int .u8 192), .lit (.int .u8 192), .lit (.int .u8 192), .lit (.int .u8 192), .lit (.int .u8 192), .lit (.int .u8 136), .lit (.int .u8 192), .lit (.int .u8 192), .lit (.int .u8 192), .lit (.int .u8 192), .lit (.int .u8 192), .lit (.int .u8 192), .lit (.int .u8 192), .lit (.int .u8 192)]
def laid_loop_example_pub_g03120_pub_gosyntax_token_index {H : Type} : DataW H := .agg [.lit (.int .u8 0), .lit (.int .u8 3), .lit (.int .u8 7), .lit (.int .u8 14), .lit (.int .u8 16), .lit (.int .u8 19), .lit (.int .u8 23), .lit (.int .u8 24), .lit (.int .u8 26), .lit (.int .u8 28), .lit (.int .u8 29), .lit (.int .u8 30), .lit (.int .u8 31), .lit (.int .u8 32), .lit (.int .u8 33), .lit (.int .u8 34), .lit (.int .u8 35), .lit (.int .u8 36), .lit (.int .u8 37), .lit (.int .u8 38), .lit (.int .u8 39), .lit (.int .u8 42), .lit (.int .u8 47), .lit (.int .u8 51), .lit (.int .u8 55), .lit (.int .u8 60), .lit (.int .u8 68), .lit (.int .u8 75), .lit (.int .u8 80), .lit (.int .u8 84), .lit (.int .u8 95), .lit (.int .u8 98), .lit (.int .u8 102), .lit (.int .u8 104), .lit (.int .u8 108), .lit (.int .u8 110), .lit (.int .u8 116), .lit (.int .u8 125), .lit (.int .u8 128), .lit (.int .u8 135), .lit (.int .u8 140), .lit (.int .u8 146), .lit (.int .u8 152), .lit (.int .u8 158), .lit (.int .u8 164), .lit (.int .u8 168), .lit (.int .u8 171), .lit (.int .u8 171)]
/-- One of Go's own tables, pinned by name: the form's constant. -/
def laid_unicode_Digit : DataW Unit := Go.Pinned.digit
/-- One of Go's own tables, pinned by name: the form's constant. -/
def laid_unicode_Letter : DataW Unit := Go.Pinned.letter

/-- 'laws.FnPartRaw': WHATEVER THE INPUT: true; the input reads as it did. -/
def fnPartRawSpec : ChangeSpec := { name := "fnPartRaw", fn := fun _ => fun
  | [d1, d2] => { results := [.lit (.bool true)], args := [d1, d2] }
  | _ => none }
def fnPartRawRow : OpenClaim := { program := "ytnehkpoggkfikaadoor", sum := "ff33b3de387280c569d810b6d4e76cdf62373a422ef38ae486b2a054c19bae43", func := "loop.example/pub-g03120/laws.FnPartRaw", spec := "fnPartRaw", unfollowed := true, recurses := true, named := ["io.EOF", "unicode/utf8.first", "unicode/utf8.acceptRanges", "io.ErrNoProgress"], apart := false, laid := [("unicode/utf8.acceptRanges", laid_unicode_utf8_acceptRanges), ("io.EOF", laid_io_EOF), ("io.ErrNoProgress", laid_io_ErrNoProgress), ("unicode/utf8.first", laid_unicode_utf8_first)] }
def FnPartRawSaid : Prop := fnPartRawRow.holds Tryd.pinned (OpenSpec.ofChange fnPartRawSpec)

/-- ITS FALSE NEIGHBOUR: 'it returns false'. Refute it at one input. -/
def fnPartRawWrong : ChangeSpec := { name := "fnPartRaw", fn := fun _ => fun
  | [d1, d2] => { results := [.lit (.bool false)], args := [d1, d2] }
  | _ => none }
def FnPartRawWrongFalsely : Prop := fnPartRawRow.holds Tryd.pinned (OpenSpec.ofChange fnPartRawWrong)

/-- 'laws.FnPartRawOpen': WHATEVER THE INPUT: true; the input reads as it did. -/
def fnPartRawOpenSpec : ChangeSpec := { name := "fnPartRawOpen", fn := fun _ => fun
  | [d] => { results := [.lit (.bool true)], args := [d] }
  | _ => none }
def fnPartRawOpenRow : OpenClaim := { program := "ytnehkpoggkfikaadoor", sum := "ff33b3de387280c569d810b6d4e76cdf62373a422ef38ae486b2a054c19bae43", func := "loop.example/pub-g03120/laws.FnPartRawOpen", spec := "fnPartRawOpen", unfollowed := true, recurses := true, named := ["io.EOF", "unicode/utf8.first", "unicode/utf8.acceptRanges", "io.ErrNoProgress"], apart := false, laid := [("unicode/utf8.acceptRanges", laid_unicode_utf8_acceptRanges), ("io.EOF", laid_io_EOF), ("io.ErrNoProgress", laid_io_ErrNoProgress), ("unicode/utf8.first", laid_unicode_utf8_first)] }
def FnPartRawOpenSaid : Prop := fnPartRawOpenRow.holds Tryd.pinned (OpenSpec.ofChange fnPartRawOpenSpec)

/-- ITS FALSE NEIGHBOUR: 'it returns false'. Refute it at one input. -/
def fnPartRawOpenWrong : ChangeSpec := { name := "fnPartRawOpen", fn := fun _ => fun
  | [d] => { results := [.lit (.bool false)], args := [d] }
  | _ => none }
def FnPartRawOpenWrongFalsely : Prop := fnPartRawOpenRow.holds Tryd.pinned (OpenSpec.ofChange fnPartRawOpenWrong)

/-- 'laws.FnPartLineRemark': WHATEVER THE INPUT: true; the input reads as it did. -/
def fnPartLineRemarkSpec : ChangeSpec := { name := "fnPartLineRemark", fn := fun _ => fun
  | [d1, d2] => { results := [.lit (.bool true)], args := [d1, d2] }
  | _ => none }
def fnPartLineRemarkRow : OpenClaim := { program := "ytnehkpoggkfikaadoor", sum := "ff33b3de387280c569d810b6d4e76cdf62373a422ef38ae486b2a054c19bae43", func := "loop.example/pub-g03120/laws.FnPartLineRemark", spec := "fnPartLineRemark", unfollowed := true, recurses := true, named := ["io.EOF", "unicode/utf8.first", "unicode/utf8.acceptRanges", "io.ErrNoProgress"], apart := false, laid := [("unicode/utf8.acceptRanges", laid_unicode_utf8_acceptRanges), ("io.EOF", laid_io_EOF), ("io.ErrNoProgress", laid_io_ErrNoProgress), ("unicode/utf8.first", laid_unicode_utf8_first)] }
def FnPartLineRemarkSaid : Prop := fnPartLineRemarkRow.holds Tryd.pinned (OpenSpec.ofChange fnPartLineRemarkSpec)

/-- ITS FALSE NEIGHBOUR: 'it returns false'. Refute it at one input. -/
def fnPartLineRemarkWrong : ChangeSpec := { name := "fnPartLineRemark", fn := fun _ => fun
  | [d1, d2] => { results := [.lit (.bool false)], args := [d1, d2] }
  | _ => none }
def FnPartLineRemarkWrongFalsely : Prop := fnPartLineRemarkRow.holds Tryd.pinned (OpenSpec.ofChange fnPartLineRemarkWrong)

/-- 'laws.FnPartRemark': WHATEVER THE INPUT: true; the input reads as it did. -/
def fnPartRemarkSpec : ChangeSpec := { name := "fnPartRemark", fn := fun _ => fun
  | [d1, d2] => { results := [.lit (.bool true)], args := [d1, d2] }
  | _ => none }
def fnPartRemarkRow : OpenClaim := { program := "ytnehkpoggkfikaadoor", sum := "ff33b3de387280c569d810b6d4e76cdf62373a422ef38ae486b2a054c19bae43", func := "loop.example/pub-g03120/laws.FnPartRemark", spec := "fnPartRemark", unfollowed := true, recurses := true, named := ["io.EOF", "unicode/utf8.first", "unicode/utf8.acceptRanges", "io.ErrNoProgress"], apart := false, laid := [("unicode/utf8.acceptRanges", laid_unicode_utf8_acceptRanges), ("io.EOF", laid_io_EOF), ("io.ErrNoProgress", laid_io_ErrNoProgress), ("unicode/utf8.first", laid_unicode_utf8_first)] }
def FnPartRemarkSaid : Prop := fnPartRemarkRow.holds Tryd.pinned (OpenSpec.ofChange fnPartRemarkSpec)

/-- ITS FALSE NEIGHBOUR: 'it returns false'. Refute it at one input. -/
def fnPartRemarkWrong : ChangeSpec := { name := "fnPartRemark", fn := fun _ => fun
  | [d1, d2] => { results := [.lit (.bool false)], args := [d1, d2] }
  | _ => none }
def FnPartRemarkWrongFalsely : Prop := fnPartRemarkRow.holds Tryd.pinned (OpenSpec.ofChange fnPartRemarkWrong)

/-- 'laws.FnPartEscape': WHATEVER THE INPUT: true; the input reads as it did. -/
def fnPartEscapeSpec : ChangeSpec := { name := "fnPartEscape", fn := fun _ => fun
  | [d1, d2] => { results := [.lit (.bool true)], args := [d1, d2] }
  | _ => none }
def fnPartEscapeRow : OpenClaim := { program := "ytnehkpoggkfikaadoor", sum := "ff33b3de387280c569d810b6d4e76cdf62373a422ef38ae486b2a054c19bae43", func := "loop.example/pub-g03120/laws.FnPartEscape", spec := "fnPartEscape", inPlace := ["internal/bytealg.IndexByteString"], unfollowed := true, recurses := true, named := ["io.EOF", "unicode/utf8.first", "unicode/utf8.acceptRanges", "io.ErrNoProgress"], apart := false, laid := [("unicode/utf8.acceptRanges", laid_unicode_utf8_acceptRanges), ("io.EOF", laid_io_EOF), ("io.ErrNoProgress", laid_io_ErrNoProgress), ("unicode/utf8.first", laid_unicode_utf8_first)] }
def FnPartEscapeSaid : Prop := fnPartEscapeRow.holds Tryd.pinned (OpenSpec.ofChange fnPartEscapeSpec)

/-- ITS FALSE NEIGHBOUR: 'it returns false'. Refute it at one input. -/
def fnPartEscapeWrong : ChangeSpec := { name := "fnPartEscape", fn := fun _ => fun
  | [d1, d2] => { results := [.lit (.bool false)], args := [d1, d2] }
  | _ => none }
def FnPartEscapeWrongFalsely : Prop := fnPartEscapeRow.holds Tryd.pinned (OpenSpec.ofChange fnPartEscapeWrong)

/-- 'laws.FnPartString': WHATEVER THE INPUT: true; the input reads as it did. -/
def fnPartStringSpec : ChangeSpec := { name := "fnPartString", fn := fun _ => fun
  | [d1, d2, d3] => { results := [.lit (.bool true)], args := [d1, d2, d3] }
  | _ => none }
def fnPartStringRow : OpenClaim := { program := "ytnehkpoggkfikaadoor", sum := "ff33b3de387280c569d810b6d4e76cdf62373a422ef38ae486b2a054c19bae43", func := "loop.example/pub-g03120/laws.FnPartString", spec := "fnPartString", unfollowed := true, recurses := true, named := ["io.EOF", "unicode/utf8.first", "unicode/utf8.acceptRanges", "io.ErrNoProgress"], apart := false, laid := [("unicode/utf8.acceptRanges", laid_unicode_utf8_acceptRanges), ("io.EOF", laid_io_EOF), ("io.ErrNoProgress", laid_io_ErrNoProgress), ("unicode/utf8.first", laid_unicode_utf8_first)] }
def FnPartStringSaid : Prop := fnPartStringRow.holds Tryd.pinned (OpenSpec.ofChange fnPartStringSpec)

/-- ITS FALSE NEIGHBOUR: 'it returns false'. Refute it at one input. -/
def fnPartStringWrong : ChangeSpec := { name := "fnPartString", fn := fun _ => fun
  | [d1, d2, d3] => { results := [.lit (.bool false)], args := [d1, d2, d3] }
  | _ => none }
def FnPartStringWrongFalsely : Prop := fnPartStringRow.holds Tryd.pinned (OpenSpec.ofChange fnPartStringWrong)

/-- 'laws.FnPartStringOpen': WHATEVER THE INPUT: true; the input reads as it did. -/
def fnPartStringOpenSpec : ChangeSpec := { name := "fnPartStringOpen", fn := fun _ => fun
  | [d] => { results := [.lit (.bool true)], args := [d] }
  | _ => none }
def fnPartStringOpenRow : OpenClaim := { program := "ytnehkpoggkfikaadoor", sum := "ff33b3de387280c569d810b6d4e76cdf62373a422ef38ae486b2a054c19bae43", func := "loop.example/pub-g03120/laws.FnPartStringOpen", spec := "fnPartStringOpen", unfollowed := true, recurses := true, named := ["io.EOF", "unicode/utf8.first", "unicode/utf8.acceptRanges", "io.ErrNoProgress"], apart := false, laid := [("unicode/utf8.acceptRanges", laid_unicode_utf8_acceptRanges), ("io.EOF", laid_io_EOF), ("io.ErrNoProgress", laid_io_ErrNoProgress), ("unicode/utf8.first", laid_unicode_utf8_first)] }
def FnPartStringOpenSaid : Prop := fnPartStringOpenRow.holds Tryd.pinned (OpenSpec.ofChange fnPartStringOpenSpec)

/-- ITS FALSE NEIGHBOUR: 'it returns false'. Refute it at one input. -/
def fnPartStringOpenWrong : ChangeSpec := { name := "fnPartStringOpen", fn := fun _ => fun
  | [d] => { results := [.lit (.bool false)], args := [d] }
  | _ => none }
def FnPartStringOpenWrongFalsely : Prop := fnPartStringOpenRow.holds Tryd.pinned (OpenSpec.ofChange fnPartStringOpenWrong)

/-- 'laws.FnPartRune': WHATEVER THE INPUT: true; the input reads as it did. -/
def fnPartRuneSpec : ChangeSpec := { name := "fnPartRune", fn := fun _ => fun
  | [d1, d2] => { results := [.lit (.bool true)], args := [d1, d2] }
  | _ => none }
def fnPartRuneRow : OpenClaim := { program := "ytnehkpoggkfikaadoor", sum := "ff33b3de387280c569d810b6d4e76cdf62373a422ef38ae486b2a054c19bae43", func := "loop.example/pub-g03120/laws.FnPartRune", spec := "fnPartRune", unfollowed := true, recurses := true, named := ["io.EOF", "unicode/utf8.first", "unicode/utf8.acceptRanges", "io.ErrNoProgress"], apart := false, laid := [("unicode/utf8.acceptRanges", laid_unicode_utf8_acceptRanges), ("io.EOF", laid_io_EOF), ("io.ErrNoProgress", laid_io_ErrNoProgress), ("unicode/utf8.first", laid_unicode_utf8_first)] }
def FnPartRuneSaid : Prop := fnPartRuneRow.holds Tryd.pinned (OpenSpec.ofChange fnPartRuneSpec)

/-- ITS FALSE NEIGHBOUR: 'it returns false'. Refute it at one input. -/
def fnPartRuneWrong : ChangeSpec := { name := "fnPartRune", fn := fun _ => fun
  | [d1, d2] => { results := [.lit (.bool false)], args := [d1, d2] }
  | _ => none }
def FnPartRuneWrongFalsely : Prop := fnPartRuneRow.holds Tryd.pinned (OpenSpec.ofChange fnPartRuneWrong)

/-- 'laws.FnPartRuneOpen': WHATEVER THE INPUT: true; the input reads as it did. -/
def fnPartRuneOpenSpec : ChangeSpec := { name := "fnPartRuneOpen", fn := fun _ => fun
  | [d] => { results := [.lit (.bool true)], args := [d] }
  | _ => none }
def fnPartRuneOpenRow : OpenClaim := { program := "ytnehkpoggkfikaadoor", sum := "ff33b3de387280c569d810b6d4e76cdf62373a422ef38ae486b2a054c19bae43", func := "loop.example/pub-g03120/laws.FnPartRuneOpen", spec := "fnPartRuneOpen", unfollowed := true, recurses := true, named := ["io.EOF", "unicode/utf8.first", "unicode/utf8.acceptRanges", "io.ErrNoProgress"], apart := false, laid := [("unicode/utf8.acceptRanges", laid_unicode_utf8_acceptRanges), ("io.EOF", laid_io_EOF), ("io.ErrNoProgress", laid_io_ErrNoProgress), ("unicode/utf8.first", laid_unicode_utf8_first)] }
def FnPartRuneOpenSaid : Prop := fnPartRuneOpenRow.holds Tryd.pinned (OpenSpec.ofChange fnPartRuneOpenSpec)

/-- ITS FALSE NEIGHBOUR: 'it returns false'. Refute it at one input. -/
def fnPartRuneOpenWrong : ChangeSpec := { name := "fnPartRuneOpen", fn := fun _ => fun
  | [d] => { results := [.lit (.bool false)], args := [d] }
  | _ => none }
def FnPartRuneOpenWrongFalsely : Prop := fnPartRuneOpenRow.holds Tryd.pinned (OpenSpec.ofChange fnPartRuneOpenWrong)

/-- 'laws.FnPartBadNumber': WHATEVER THE INPUT: true; the input reads as it did. -/
def fnPartBadNumberSpec : ChangeSpec := { name := "fnPartBadNumber", fn := fun _ => fun
  | [d1, d2, d3] => { results := [.lit (.bool true)], args := [d1, d2, d3] }
  | _ => none }
def fnPartBadNumberRow : OpenClaim := { program := "ytnehkpoggkfikaadoor", sum := "ff33b3de387280c569d810b6d4e76cdf62373a422ef38ae486b2a054c19bae43", func := "loop.example/pub-g03120/laws.FnPartBadNumber", spec := "fnPartBadNumber", unfollowed := true, recurses := true, named := ["io.EOF", "unicode/utf8.first", "unicode/utf8.acceptRanges", "io.ErrNoProgress"], apart := false, laid := [("unicode/utf8.acceptRanges", laid_unicode_utf8_acceptRanges), ("io.EOF", laid_io_EOF), ("io.ErrNoProgress", laid_io_ErrNoProgress), ("unicode/utf8.first", laid_unicode_utf8_first)] }
def FnPartBadNumberSaid : Prop := fnPartBadNumberRow.holds Tryd.pinned (OpenSpec.ofChange fnPartBadNumberSpec)

/-- ITS FALSE NEIGHBOUR: 'it returns false'. Refute it at one input. -/
def fnPartBadNumberWrong : ChangeSpec := { name := "fnPartBadNumber", fn := fun _ => fun
  | [d1, d2, d3] => { results := [.lit (.bool false)], args := [d1, d2, d3] }
  | _ => none }
def FnPartBadNumberWrongFalsely : Prop := fnPartBadNumberRow.holds Tryd.pinned (OpenSpec.ofChange fnPartBadNumberWrong)

/-- 'laws.FnPartNumber': WHATEVER THE INPUT: true; the input reads as it did. -/
def fnPartNumberSpec : ChangeSpec := { name := "fnPartNumber", fn := fun _ => fun
  | [d1, d2] => { results := [.lit (.bool true)], args := [d1, d2] }
  | _ => none }
def fnPartNumberRow : OpenClaim := { program := "ytnehkpoggkfikaadoor", sum := "ff33b3de387280c569d810b6d4e76cdf62373a422ef38ae486b2a054c19bae43", func := "loop.example/pub-g03120/laws.FnPartNumber", spec := "fnPartNumber", inPlace := ["internal/bytealg.IndexByteString"], unfollowed := true, recurses := true, named := ["io.EOF", "unicode/utf8.first", "unicode/utf8.acceptRanges", "io.ErrNoProgress"], apart := false, laid := [("unicode/utf8.acceptRanges", laid_unicode_utf8_acceptRanges), ("io.EOF", laid_io_EOF), ("io.ErrNoProgress", laid_io_ErrNoProgress), ("unicode/utf8.first", laid_unicode_utf8_first)] }
def FnPartNumberSaid : Prop := fnPartNumberRow.holds Tryd.pinned (OpenSpec.ofChange fnPartNumberSpec)

/-- ITS FALSE NEIGHBOUR: 'it returns false'. Refute it at one input. -/
def fnPartNumberWrong : ChangeSpec := { name := "fnPartNumber", fn := fun _ => fun
  | [d1, d2] => { results := [.lit (.bool false)], args := [d1, d2] }
  | _ => none }
def FnPartNumberWrongFalsely : Prop := fnPartNumberRow.holds Tryd.pinned (OpenSpec.ofChange fnPartNumberWrong)

/-- 'laws.FnPartPoint': WHATEVER THE INPUT: true; the input reads as it did. -/
def fnPartPointSpec : ChangeSpec := { name := "fnPartPoint", fn := fun _ => fun
  | [d1, d2] => { results := [.lit (.bool true)], args := [d1, d2] }
  | _ => none }
def fnPartPointRow : OpenClaim := { program := "ytnehkpoggkfikaadoor", sum := "ff33b3de387280c569d810b6d4e76cdf62373a422ef38ae486b2a054c19bae43", func := "loop.example/pub-g03120/laws.FnPartPoint", spec := "fnPartPoint", inPlace := ["internal/bytealg.IndexByteString"], unfollowed := true, recurses := true, named := ["io.EOF", "unicode/utf8.first", "unicode/utf8.acceptRanges", "io.ErrNoProgress"], apart := false, laid := [("unicode/utf8.acceptRanges", laid_unicode_utf8_acceptRanges), ("io.EOF", laid_io_EOF), ("io.ErrNoProgress", laid_io_ErrNoProgress), ("unicode/utf8.first", laid_unicode_utf8_first)] }
def FnPartPointSaid : Prop := fnPartPointRow.holds Tryd.pinned (OpenSpec.ofChange fnPartPointSpec)

/-- ITS FALSE NEIGHBOUR: 'it returns false'. Refute it at one input. -/
def fnPartPointWrong : ChangeSpec := { name := "fnPartPoint", fn := fun _ => fun
  | [d1, d2] => { results := [.lit (.bool false)], args := [d1, d2] }
  | _ => none }
def FnPartPointWrongFalsely : Prop := fnPartPointRow.holds Tryd.pinned (OpenSpec.ofChange fnPartPointWrong)

/-- 'laws.FnPartKeyword': WHATEVER THE INPUT: true; the input reads as it did. -/
def fnPartKeywordSpec : ChangeSpec := { name := "fnPartKeyword", vars := ["loop.example/pub-g03120/pub/gosyntax._token_index"], fn := fun _ => fun
  | [d1, d2, g1] => { results := [.lit (.bool true)], args := [d1, d2], vars := [g1] }
  | _ => none }
def fnPartKeywordRow : OpenClaim := { program := "ytnehkpoggkfikaadoor", sum := "ff33b3de387280c569d810b6d4e76cdf62373a422ef38ae486b2a054c19bae43", func := "loop.example/pub-g03120/laws.FnPartKeyword", spec := "fnPartKeyword", unfollowed := true, recurses := true, named := ["io.EOF", "unicode/utf8.first", "unicode/utf8.acceptRanges", "io.ErrNoProgress", "unicode.properties", "unicode.Letter", "unicode.Digit", "loop.example/pub-g03120/pub/gosyntax._token_index", "internal/strconv.uint64pow10", "math/bits.deBruijn32tab", "math/bits.deBruijn64tab"], apart := false, laid := [("math/bits.deBruijn32tab", laid_math_bits_deBruijn32tab), ("math/bits.deBruijn64tab", laid_math_bits_deBruijn64tab), ("internal/strconv.uint64pow10", laid_internal_strconv_uint64pow10), ("unicode/utf8.acceptRanges", laid_unicode_utf8_acceptRanges), ("io.EOF", laid_io_EOF), ("io.ErrNoProgress", laid_io_ErrNoProgress), ("unicode.properties", laid_unicode_properties), ("loop.example/pub-g03120/pub/gosyntax._token_index", laid_loop_example_pub_g03120_pub_gosyntax_token_index), ("unicode.Digit", laid_unicode_Digit), ("unicode.Letter", laid_unicode_Letter), ("unicode/utf8.first", laid_unicode_utf8_first)] }
def FnPartKeywordSaid : Prop := fnPartKeywordRow.holds Tryd.pinned (OpenSpec.ofChange fnPartKeywordSpec)

/-- ITS FALSE NEIGHBOUR: 'it returns false'. Refute it at one input. -/
def fnPartKeywordWrong : ChangeSpec := { name := "fnPartKeyword", vars := ["loop.example/pub-g03120/pub/gosyntax._token_index"], fn := fun _ => fun
  | [d1, d2, g1] => { results := [.lit (.bool false)], args := [d1, d2], vars := [g1] }
  | _ => none }
def FnPartKeywordWrongFalsely : Prop := fnPartKeywordRow.holds Tryd.pinned (OpenSpec.ofChange fnPartKeywordWrong)

/-- 'laws.FnPartName': WHATEVER THE INPUT: true; the input reads as it did. -/
def fnPartNameSpec : ChangeSpec := { name := "fnPartName", vars := ["loop.example/pub-g03120/pub/gosyntax._token_index"], fn := fun _ => fun
  | [d1, d2, g1] => { results := [.lit (.bool true)], args := [d1, d2], vars := [g1] }
  | _ => none }
def fnPartNameRow : OpenClaim := { program := "ytnehkpoggkfikaadoor", sum := "ff33b3de387280c569d810b6d4e76cdf62373a422ef38ae486b2a054c19bae43", func := "loop.example/pub-g03120/laws.FnPartName", spec := "fnPartName", inPlace := ["internal/bytealg.IndexByteString"], unfollowed := true, recurses := true, named := ["unicode.properties", "unicode.Letter", "unicode.Digit", "io.EOF", "unicode/utf8.first", "unicode/utf8.acceptRanges", "io.ErrNoProgress", "loop.example/pub-g03120/pub/gosyntax._token_index", "internal/strconv.uint64pow10", "math/bits.deBruijn32tab", "math/bits.deBruijn64tab"], apart := false, laid := [("math/bits.deBruijn32tab", laid_math_bits_deBruijn32tab), ("math/bits.deBruijn64tab", laid_math_bits_deBruijn64tab), ("internal/strconv.uint64pow10", laid_internal_strconv_uint64pow10), ("unicode/utf8.acceptRanges", laid_unicode_utf8_acceptRanges), ("io.EOF", laid_io_EOF), ("io.ErrNoProgress", laid_io_ErrNoProgress), ("unicode.properties", laid_unicode_properties), ("loop.example/pub-g03120/pub/gosyntax._token_index", laid_loop_example_pub_g03120_pub_gosyntax_token_index), ("unicode.Digit", laid_unicode_Digit), ("unicode.Letter", laid_unicode_Letter), ("unicode/utf8.first", laid_unicode_utf8_first)] }
def FnPartNameSaid : Prop := fnPartNameRow.holds Tryd.pinned (OpenSpec.ofChange fnPartNameSpec)

/-- ITS FALSE NEIGHBOUR: 'it returns false'. Refute it at one input. -/
def fnPartNameWrong : ChangeSpec := { name := "fnPartName", vars := ["loop.example/pub-g03120/pub/gosyntax._token_index"], fn := fun _ => fun
  | [d1, d2, g1] => { results := [.lit (.bool false)], args := [d1, d2], vars := [g1] }
  | _ => none }
def FnPartNameWrongFalsely : Prop := fnPartNameRow.holds Tryd.pinned (OpenSpec.ofChange fnPartNameWrong)

/- THE SECOND FORM. 'bulk': how many values and letters a reading holds, each counted each time it is reached (what is shared counts as often as it is met; a slice's spare places count too). A statement '..UptoSaid' is the law's where the arguments, and the package variables that the reading takes, are together of bulk at most 1048576: NARROWER than '..Said'. Prove '..Said' where nothing that the law and all that it calls make is longer than what came in: it says more and counts as full. Else prove '..UptoSaid'. A law counts once. -/
mutual
def uptoBulk {H : Type} : DataW H → Nat
  | .lit (.string bytes) => bytes.length + 1
  | .lit _ => 1
  | .nil => 1
  | .ptr d => uptoBulk d + 1
  | .slice elems spare => uptoBulkAll elems + uptoBulkAll spare + 1
  | .agg parts => uptoBulkAll parts + 1
  | .iface _ d => uptoBulk d + 1
  | .map entries => uptoBulkEntries entries + 1
  | .held _ => 1
def uptoBulkAll {H : Type} : List (DataW H) → Nat
  | [] => 0
  | d :: r => uptoBulk d + uptoBulkAll r
def uptoBulkEntries {H : Type} : List (Lit × DataW H) → Nat
  | [] => 0
  | x :: r => uptoBulkEntry x + uptoBulkEntries r
def uptoBulkEntry {H : Type} : Lit × DataW H → Nat
  | (.string bytes, d) => bytes.length + uptoBulk d + 1
  | (_, d) => uptoBulk d + 1
 end
def uptoSmall : (H : Type) → List (DataW H) → Bool := fun _ ds => decide (uptoBulkAll ds ≤ 1048576)
def OpenSpec.upto (s : _root_.Go.ChangeSpec) : _root_.Go.OpenSpec := { _root_.Go.OpenSpec.ofChange s with cond := some uptoSmall }

/-- 'laws.FnPartRaw', WHERE WHAT IT READS IS OF BULK AT MOST 1048576: true; the input reads as it did. -/
def fnPartRawUptoRow : OpenClaim := { program := "ytnehkpoggkfikaadoor", sum := "ff33b3de387280c569d810b6d4e76cdf62373a422ef38ae486b2a054c19bae43", func := "loop.example/pub-g03120/laws.FnPartRaw", spec := "fnPartRaw", unfollowed := true, recurses := true, named := ["io.EOF", "unicode/utf8.first", "unicode/utf8.acceptRanges", "io.ErrNoProgress"], apart := false, laid := [("unicode/utf8.acceptRanges", laid_unicode_utf8_acceptRanges), ("io.EOF", laid_io_EOF), ("io.ErrNoProgress", laid_io_ErrNoProgress), ("unicode/utf8.first", laid_unicode_utf8_first)], narrowed := true }
def FnPartRawUptoSaid : Prop := fnPartRawUptoRow.holds Tryd.pinned (OpenSpec.upto fnPartRawSpec)

/-- 'laws.FnPartRawOpen', WHERE WHAT IT READS IS OF BULK AT MOST 1048576: true; the input reads as it did. -/
def fnPartRawOpenUptoRow : OpenClaim := { program := "ytnehkpoggkfikaadoor", sum := "ff33b3de387280c569d810b6d4e76cdf62373a422ef38ae486b2a054c19bae43", func := "loop.example/pub-g03120/laws.FnPartRawOpen", spec := "fnPartRawOpen", unfollowed := true, recurses := true, named := ["io.EOF", "unicode/utf8.first", "unicode/utf8.acceptRanges", "io.ErrNoProgress"], apart := false, laid := [("unicode/utf8.acceptRanges", laid_unicode_utf8_acceptRanges), ("io.EOF", laid_io_EOF), ("io.ErrNoProgress", laid_io_ErrNoProgress), ("unicode/utf8.first", laid_unicode_utf8_first)], narrowed := true }
def FnPartRawOpenUptoSaid : Prop := fnPartRawOpenUptoRow.holds Tryd.pinned (OpenSpec.upto fnPartRawOpenSpec)

/-- 'laws.FnPartLineRemark', WHERE WHAT IT READS IS OF BULK AT MOST 1048576: true; the input reads as it did. -/
def fnPartLineRemarkUptoRow : OpenClaim := { program := "ytnehkpoggkfikaadoor", sum := "ff33b3de387280c569d810b6d4e76cdf62373a422ef38ae486b2a054c19bae43", func := "loop.example/pub-g03120/laws.FnPartLineRemark", spec := "fnPartLineRemark", unfollowed := true, recurses := true, named := ["io.EOF", "unicode/utf8.first", "unicode/utf8.acceptRanges", "io.ErrNoProgress"], apart := false, laid := [("unicode/utf8.acceptRanges", laid_unicode_utf8_acceptRanges), ("io.EOF", laid_io_EOF), ("io.ErrNoProgress", laid_io_ErrNoProgress), ("unicode/utf8.first", laid_unicode_utf8_first)], narrowed := true }
def FnPartLineRemarkUptoSaid : Prop := fnPartLineRemarkUptoRow.holds Tryd.pinned (OpenSpec.upto fnPartLineRemarkSpec)

/-- 'laws.FnPartRemark', WHERE WHAT IT READS IS OF BULK AT MOST 1048576: true; the input reads as it did. -/
def fnPartRemarkUptoRow : OpenClaim := { program := "ytnehkpoggkfikaadoor", sum := "ff33b3de387280c569d810b6d4e76cdf62373a422ef38ae486b2a054c19bae43", func := "loop.example/pub-g03120/laws.FnPartRemark", spec := "fnPartRemark", unfollowed := true, recurses := true, named := ["io.EOF", "unicode/utf8.first", "unicode/utf8.acceptRanges", "io.ErrNoProgress"], apart := false, laid := [("unicode/utf8.acceptRanges", laid_unicode_utf8_acceptRanges), ("io.EOF", laid_io_EOF), ("io.ErrNoProgress", laid_io_ErrNoProgress), ("unicode/utf8.first", laid_unicode_utf8_first)], narrowed := true }
def FnPartRemarkUptoSaid : Prop := fnPartRemarkUptoRow.holds Tryd.pinned (OpenSpec.upto fnPartRemarkSpec)

/-- 'laws.FnPartEscape', WHERE WHAT IT READS IS OF BULK AT MOST 1048576: true; the input reads as it did. -/
def fnPartEscapeUptoRow : OpenClaim := { program := "ytnehkpoggkfikaadoor", sum := "ff33b3de387280c569d810b6d4e76cdf62373a422ef38ae486b2a054c19bae43", func := "loop.example/pub-g03120/laws.FnPartEscape", spec := "fnPartEscape", inPlace := ["internal/bytealg.IndexByteString"], unfollowed := true, recurses := true, named := ["io.EOF", "unicode/utf8.first", "unicode/utf8.acceptRanges", "io.ErrNoProgress"], apart := false, laid := [("unicode/utf8.acceptRanges", laid_unicode_utf8_acceptRanges), ("io.EOF", laid_io_EOF), ("io.ErrNoProgress", laid_io_ErrNoProgress), ("unicode/utf8.first", laid_unicode_utf8_first)], narrowed := true }
def FnPartEscapeUptoSaid : Prop := fnPartEscapeUptoRow.holds Tryd.pinned (OpenSpec.upto fnPartEscapeSpec)

/-- 'laws.FnPartString', WHERE WHAT IT READS IS OF BULK AT MOST 1048576: true; the input reads as it did. -/
def fnPartStringUptoRow : OpenClaim := { program := "ytnehkpoggkfikaadoor", sum := "ff33b3de387280c569d810b6d4e76cdf62373a422ef38ae486b2a054c19bae43", func := "loop.example/pub-g03120/laws.FnPartString", spec := "fnPartString", unfollowed := true, recurses := true, named := ["io.EOF", "unicode/utf8.first", "unicode/utf8.acceptRanges", "io.ErrNoProgress"], apart := false, laid := [("unicode/utf8.acceptRanges", laid_unicode_utf8_acceptRanges), ("io.EOF", laid_io_EOF), ("io.ErrNoProgress", laid_io_ErrNoProgress), ("unicode/utf8.first", laid_unicode_utf8_first)], narrowed := true }
def FnPartStringUptoSaid : Prop := fnPartStringUptoRow.holds Tryd.pinned (OpenSpec.upto fnPartStringSpec)

/-- 'laws.FnPartStringOpen', WHERE WHAT IT READS IS OF BULK AT MOST 1048576: true; the input reads as it did. -/
def fnPartStringOpenUptoRow : OpenClaim := { program := "ytnehkpoggkfikaadoor", sum := "ff33b3de387280c569d810b6d4e76cdf62373a422ef38ae486b2a054c19bae43", func := "loop.example/pub-g03120/laws.FnPartStringOpen", spec := "fnPartStringOpen", unfollowed := true, recurses := true, named := ["io.EOF", "unicode/utf8.first", "unicode/utf8.acceptRanges", "io.ErrNoProgress"], apart := false, laid := [("unicode/utf8.acceptRanges", laid_unicode_utf8_acceptRanges), ("io.EOF", laid_io_EOF), ("io.ErrNoProgress", laid_io_ErrNoProgress), ("unicode/utf8.first", laid_unicode_utf8_first)], narrowed := true }
def FnPartStringOpenUptoSaid : Prop := fnPartStringOpenUptoRow.holds Tryd.pinned (OpenSpec.upto fnPartStringOpenSpec)

/-- 'laws.FnPartRune', WHERE WHAT IT READS IS OF BULK AT MOST 1048576: true; the input reads as it did. -/
def fnPartRuneUptoRow : OpenClaim := { program := "ytnehkpoggkfikaadoor", sum := "ff33b3de387280c569d810b6d4e76cdf62373a422ef38ae486b2a054c19bae43", func := "loop.example/pub-g03120/laws.FnPartRune", spec := "fnPartRune", unfollowed := true, recurses := true, named := ["io.EOF", "unicode/utf8.first", "unicode/utf8.acceptRanges", "io.ErrNoProgress"], apart := false, laid := [("unicode/utf8.acceptRanges", laid_unicode_utf8_acceptRanges), ("io.EOF", laid_io_EOF), ("io.ErrNoProgress", laid_io_ErrNoProgress), ("unicode/utf8.first", laid_unicode_utf8_first)], narrowed := true }
def FnPartRuneUptoSaid : Prop := fnPartRuneUptoRow.holds Tryd.pinned (OpenSpec.upto fnPartRuneSpec)

/-- 'laws.FnPartRuneOpen', WHERE WHAT IT READS IS OF BULK AT MOST 1048576: true; the input reads as it did. -/
def fnPartRuneOpenUptoRow : OpenClaim := { program := "ytnehkpoggkfikaadoor", sum := "ff33b3de387280c569d810b6d4e76cdf62373a422ef38ae486b2a054c19bae43", func := "loop.example/pub-g03120/laws.FnPartRuneOpen", spec := "fnPartRuneOpen", unfollowed := true, recurses := true, named := ["io.EOF", "unicode/utf8.first", "unicode/utf8.acceptRanges", "io.ErrNoProgress"], apart := false, laid := [("unicode/utf8.acceptRanges", laid_unicode_utf8_acceptRanges), ("io.EOF", laid_io_EOF), ("io.ErrNoProgress", laid_io_ErrNoProgress), ("unicode/utf8.first", laid_unicode_utf8_first)], narrowed := true }
def FnPartRuneOpenUptoSaid : Prop := fnPartRuneOpenUptoRow.holds Tryd.pinned (OpenSpec.upto fnPartRuneOpenSpec)

/-- 'laws.FnPartBadNumber', WHERE WHAT IT READS IS OF BULK AT MOST 1048576: true; the input reads as it did. -/
def fnPartBadNumberUptoRow : OpenClaim := { program := "ytnehkpoggkfikaadoor", sum := "ff33b3de387280c569d810b6d4e76cdf62373a422ef38ae486b2a054c19bae43", func := "loop.example/pub-g03120/laws.FnPartBadNumber", spec := "fnPartBadNumber", unfollowed := true, recurses := true, named := ["io.EOF", "unicode/utf8.first", "unicode/utf8.acceptRanges", "io.ErrNoProgress"], apart := false, laid := [("unicode/utf8.acceptRanges", laid_unicode_utf8_acceptRanges), ("io.EOF", laid_io_EOF), ("io.ErrNoProgress", laid_io_ErrNoProgress), ("unicode/utf8.first", laid_unicode_utf8_first)], narrowed := true }
def FnPartBadNumberUptoSaid : Prop := fnPartBadNumberUptoRow.holds Tryd.pinned (OpenSpec.upto fnPartBadNumberSpec)

/-- 'laws.FnPartNumber', WHERE WHAT IT READS IS OF BULK AT MOST 1048576: true; the input reads as it did. -/
def fnPartNumberUptoRow : OpenClaim := { program := "ytnehkpoggkfikaadoor", sum := "ff33b3de387280c569d810b6d4e76cdf62373a422ef38ae486b2a054c19bae43", func := "loop.example/pub-g03120/laws.FnPartNumber", spec := "fnPartNumber", inPlace := ["internal/bytealg.IndexByteString"], unfollowed := true, recurses := true, named := ["io.EOF", "unicode/utf8.first", "unicode/utf8.acceptRanges", "io.ErrNoProgress"], apart := false, laid := [("unicode/utf8.acceptRanges", laid_unicode_utf8_acceptRanges), ("io.EOF", laid_io_EOF), ("io.ErrNoProgress", laid_io_ErrNoProgress), ("unicode/utf8.first", laid_unicode_utf8_first)], narrowed := true }
def FnPartNumberUptoSaid : Prop := fnPartNumberUptoRow.holds Tryd.pinned (OpenSpec.upto fnPartNumberSpec)

/-- 'laws.FnPartPoint', WHERE WHAT IT READS IS OF BULK AT MOST 1048576: true; the input reads as it did. -/
def fnPartPointUptoRow : OpenClaim := { program := "ytnehkpoggkfikaadoor", sum := "ff33b3de387280c569d810b6d4e76cdf62373a422ef38ae486b2a054c19bae43", func := "loop.example/pub-g03120/laws.FnPartPoint", spec := "fnPartPoint", inPlace := ["internal/bytealg.IndexByteString"], unfollowed := true, recurses := true, named := ["io.EOF", "unicode/utf8.first", "unicode/utf8.acceptRanges", "io.ErrNoProgress"], apart := false, laid := [("unicode/utf8.acceptRanges", laid_unicode_utf8_acceptRanges), ("io.EOF", laid_io_EOF), ("io.ErrNoProgress", laid_io_ErrNoProgress), ("unicode/utf8.first", laid_unicode_utf8_first)], narrowed := true }
def FnPartPointUptoSaid : Prop := fnPartPointUptoRow.holds Tryd.pinned (OpenSpec.upto fnPartPointSpec)

/-- 'laws.FnPartKeyword', WHERE WHAT IT READS IS OF BULK AT MOST 1048576: true; the input reads as it did. -/
def fnPartKeywordUptoRow : OpenClaim := { program := "ytnehkpoggkfikaadoor", sum := "ff33b3de387280c569d810b6d4e76cdf62373a422ef38ae486b2a054c19bae43", func := "loop.example/pub-g03120/laws.FnPartKeyword", spec := "fnPartKeyword", unfollowed := true, recurses := true, named := ["io.EOF", "unicode/utf8.first", "unicode/utf8.acceptRanges", "io.ErrNoProgress", "unicode.properties", "unicode.Letter", "unicode.Digit", "loop.example/pub-g03120/pub/gosyntax._token_index", "internal/strconv.uint64pow10", "math/bits.deBruijn32tab", "math/bits.deBruijn64tab"], apart := false, laid := [("math/bits.deBruijn32tab", laid_math_bits_deBruijn32tab), ("math/bits.deBruijn64tab", laid_math_bits_deBruijn64tab), ("internal/strconv.uint64pow10", laid_internal_strconv_uint64pow10), ("unicode/utf8.acceptRanges", laid_unicode_utf8_acceptRanges), ("io.EOF", laid_io_EOF), ("io.ErrNoProgress", laid_io_ErrNoProgress), ("unicode.properties", laid_unicode_properties), ("loop.example/pub-g03120/pub/gosyntax._token_index", laid_loop_example_pub_g03120_pub_gosyntax_token_index), ("unicode.Digit", laid_unicode_Digit), ("unicode.Letter", laid_unicode_Letter), ("unicode/utf8.first", laid_unicode_utf8_first)], narrowed := true }
def FnPartKeywordUptoSaid : Prop := fnPartKeywordUptoRow.holds Tryd.pinned (OpenSpec.upto fnPartKeywordSpec)

/-- 'laws.FnPartName', WHERE WHAT IT READS IS OF BULK AT MOST 1048576: true; the input reads as it did. -/
def fnPartNameUptoRow : OpenClaim := { program := "ytnehkpoggkfikaadoor", sum := "ff33b3de387280c569d810b6d4e76cdf62373a422ef38ae486b2a054c19bae43", func := "loop.example/pub-g03120/laws.FnPartName", spec := "fnPartName", inPlace := ["internal/bytealg.IndexByteString"], unfollowed := true, recurses := true, named := ["unicode.properties", "unicode.Letter", "unicode.Digit", "io.EOF", "unicode/utf8.first", "unicode/utf8.acceptRanges", "io.ErrNoProgress", "loop.example/pub-g03120/pub/gosyntax._token_index", "internal/strconv.uint64pow10", "math/bits.deBruijn32tab", "math/bits.deBruijn64tab"], apart := false, laid := [("math/bits.deBruijn32tab", laid_math_bits_deBruijn32tab), ("math/bits.deBruijn64tab", laid_math_bits_deBruijn64tab), ("internal/strconv.uint64pow10", laid_internal_strconv_uint64pow10), ("unicode/utf8.acceptRanges", laid_unicode_utf8_acceptRanges), ("io.EOF", laid_io_EOF), ("io.ErrNoProgress", laid_io_ErrNoProgress), ("unicode.properties", laid_unicode_properties), ("loop.example/pub-g03120/pub/gosyntax._token_index", laid_loop_example_pub_g03120_pub_gosyntax_token_index), ("unicode.Digit", laid_unicode_Digit), ("unicode.Letter", laid_unicode_Letter), ("unicode/utf8.first", laid_unicode_utf8_first)], narrowed := true }
def FnPartNameUptoSaid : Prop := fnPartNameUptoRow.holds Tryd.pinned (OpenSpec.upto fnPartNameSpec)

end Rows
end Go.Proofs.YtnehkpoggkfikaaDoor
