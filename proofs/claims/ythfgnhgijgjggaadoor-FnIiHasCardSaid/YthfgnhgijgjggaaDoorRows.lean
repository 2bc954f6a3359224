/-
  NARROWER THAN 'FOR EVERY INPUT', by the rows' own cells (each row's printed sentence says how): FnHdMatches: laid · FnIiHas: laid · FnCdPrefix: laid · FnLdZero: laid · FnLdWrite: laid · FnSeHead: laid · FnSeBoth: laid.
  DERIVED. THE GIVEN ROWS OF THIS SEAT. 7 by the template 'for every input the law returns true; each argument reads behind the call as it read before'; 0 by the template 'total and deterministic' (their statements: YthfgnhgijgjggaaDoorTotals.lean).
  GIVEN WITH THE SEED: the statements are not yours to turn. If you find one false, say at which input.
  Laid BY PROGRAM, IN A SANDBOX (cutbox-rows.mjs): the forced cells as the released guide's own fill.sh prints them over the translation c5c7560d8402f1f4… (all of the seat's roots in one cut). By AI agents, Wed Nov 11 2026. No macro, syntax, notation, axiom, sorry.
-/
import Derived.Test.YthfgnhgijgjggaaDoorChecked
import GoSem.Claim
import GoSem.ClaimJoined
import GoSem.ClaimMapViews
import Derived.JoinedTies
import Derived.KernelRfl
namespace Go.Proofs.YthfgnhgijgjggaaDoor
/- THE CELL 'sum', in the pinned program and in every row, IS THE sha256 OF THE DUMP (.gsa) THAT YthfgnhgijgjggaaDoorProg.lean LOADS. Nothing in Lean hashes anything: it is a label: what it is worth is what the hold of that sum in a sandbox is worth. -/
noncomputable def Tryd.pinned : Pinned := { name := "ythfgnhgijgjggaadoor", sum := "c5c7560d8402f1f49ce90c6842b8b800df5d3278e52b7f178ffd52028413ba2b", checked := Tryd.checked }
namespace Rows
def none {H : Type} : Left H := { results := [], args := [] }

/- WHAT THE LISTED PACKAGE-LEVEL VARIABLES READ AS WHEN THE CALL BEGINS. Each datum BY PROGRAM (the guide's laid-datum.mjs) off the statement by which the dump's own 'gosem.cut.vars' lays the variable. In a bare row this is a premise. The card (YthfgnhgijgjggaaDoorCards.lean) ties it to the program's text. -/
def laid_pub_droshky_pub_varint_ErrOverflow {H : Type} : DataW H := .iface "*errors.errorString" (.ptr (.agg [.lit (.string [118, 97, 114, 105, 110, 116, 115, 32, 108, 97, 114, 103, 101, 114, 32, 116, 104, 97, 110, 32, 117, 105, 110, 116, 54, 51, 32, 110, 111, 116, 32, 115, 117, 112, 112, 111, 114, 116, 101, 100])]))
def laid_pub_droshky_pub_varint_ErrUnderflow {H : Type} : DataW H := .iface "*errors.errorString" (.ptr (.agg [.lit (.string [118, 97, 114, 105, 110, 116, 115, 32, 109, 97, 108, 102, 111, 114, 109, 101, 100, 44, 32, 99, 111, 117, 108, 100, 32, 110, 111, 116, 32, 114, 101, 97, 99, 104, 32, 116, 104, 101, 32, 101, 110, 100])]))
def laid_pub_droshky_pub_varint_ErrNotMinimal {H : Type} : DataW H := .iface "*errors.errorString" (.ptr (.agg [.lit (.string [118, 97, 114, 105, 110, 116, 32, 110, 111, 116, 32, 109, 105, 110, 105, 109, 97, 108, 108, 121, 32, 101, 110, 99, 111, 100, 101, 100])]))
def laid_pub_droshky_pub_multihash_ErrTooShort {H : Type} : DataW H := .iface "*errors.errorString" (.ptr (.agg [.lit (.string [109, 117, 108, 116, 105, 104, 97, 115, 104, 32, 116, 111, 111, 32, 115, 104, 111, 114, 116, 46, 32, 109, 117, 115, 116, 32, 98, 101, 32, 62, 61, 32, 50, 32, 98, 121, 116, 101, 115])]))
def laid_pub_droshky_pub_multihash_ErrVarintBufferShort {H : Type} : DataW H := .iface "*errors.errorString" (.ptr (.agg [.lit (.string [117, 118, 97, 114, 105, 110, 116, 58, 32, 98, 117, 102, 102, 101, 114, 32, 116, 111, 111, 32, 115, 109, 97, 108, 108])]))
def laid_pub_droshky_pub_multihash_ErrVarintTooLong {H : Type} : DataW H := .iface "*errors.errorString" (.ptr (.agg [.lit (.string [117, 118, 97, 114, 105, 110, 116, 58, 32, 118, 97, 114, 105, 110, 116, 32, 116, 111, 111, 32, 98, 105, 103, 32, 40, 109, 97, 120, 32, 54, 52, 98, 105, 116, 41])]))
def laid_pub_droshky_pub_cid_Undef {H : Type} : DataW H := .agg [.lit (.string [])]
def laid_pub_droshky_pub_llrb_ninf {H : Type} : DataW H := .agg []
def laid_pub_droshky_pub_llrb_pinf {H : Type} : DataW H := .agg []
def laid_io_EOF {H : Type} : DataW H := .iface "*errors.errorString" (.ptr (.agg [.lit (.string [69, 79, 70])]))
def laid_io_ErrUnexpectedEOF {H : Type} : DataW H := .iface "*errors.errorString" (.ptr (.agg [.lit (.string [117, 110, 101, 120, 112, 101, 99, 116, 101, 100, 32, 69, 79, 70])]))
def laid_io_ErrShortBuffer {H : Type} : DataW H := .iface "*errors.errorString" (.ptr (.agg [.lit (.string [115, 104, 111, 114, 116, 32, 98, 117, 102, 102, 101, 114])]))
def laid_pub_droshky_pub_util_ErrSectionTooLarge {H : Type} : DataW H := .iface "*errors.errorString" (.ptr (.agg [.lit (.string [105, 110, 118, 97, 108, 105, 100, 32, 115, 101, 99, 116, 105, 111, 110, 32, 100, 97, 116, 97, 44, 32, 108, 101, 110, 103, 116, 104, 32, 111, 102, 32, 114, 101, 97, 100, 32, 98, 101, 121, 111, 110, 100, 32, 97, 108, 108, 111, 119, 97, 98, 108, 101, 32, 109, 97, 120, 105, 109, 117, 109])]))

/-- 'laws.FnHdMatches': WHATEVER THE INPUT: true; the input reads as it did. -/
def fnHdMatchesSpec : ChangeSpec := { name := "fnHdMatches", fn := fun _ => fun
  | [d1, d2, d3, d4] => { results := [.lit (.bool true)], args := [d1, d2, d3, d4] }
  | _ => none }
def fnHdMatchesRow : OpenClaim := { program := "ythfgnhgijgjggaadoor", sum := "c5c7560d8402f1f49ce90c6842b8b800df5d3278e52b7f178ffd52028413ba2b", func := "pub-droshky/laws.FnHdMatches", spec := "fnHdMatches", inPlace := ["internal/abi.NoEscape", "internal/bytealg.MakeNoZero"], unfollowed := true, recurses := true, named := ["pub-droshky/pub/cid.Undef", "pub-droshky/pub/multihash.ErrTooShort", "pub-droshky/pub/multihash.ErrVarintBufferShort", "pub-droshky/pub/multihash.ErrVarintTooLong", "pub-droshky/pub/varint.ErrOverflow", "pub-droshky/pub/varint.ErrNotMinimal", "pub-droshky/pub/varint.ErrUnderflow"], apart := false, laid := [("pub-droshky/pub/varint.ErrOverflow", laid_pub_droshky_pub_varint_ErrOverflow), ("pub-droshky/pub/varint.ErrUnderflow", laid_pub_droshky_pub_varint_ErrUnderflow), ("pub-droshky/pub/varint.ErrNotMinimal", laid_pub_droshky_pub_varint_ErrNotMinimal), ("pub-droshky/pub/multihash.ErrTooShort", laid_pub_droshky_pub_multihash_ErrTooShort), ("pub-droshky/pub/multihash.ErrVarintBufferShort", laid_pub_droshky_pub_multihash_ErrVarintBufferShort), ("pub-droshky/pub/multihash.ErrVarintTooLong", laid_pub_droshky_pub_multihash_ErrVarintTooLong), ("pub-droshky/pub/cid.Undef", laid_pub_droshky_pub_cid_Undef)] }
def FnHdMatchesSaid : Prop := fnHdMatchesRow.holds Tryd.pinned (OpenSpec.ofChange fnHdMatchesSpec)

/-- ITS FALSE NEIGHBOUR: 'it returns false'. Refute it at one input. -/
def fnHdMatchesWrong : ChangeSpec := { name := "fnHdMatches", fn := fun _ => fun
  | [d1, d2, d3, d4] => { results := [.lit (.bool false)], args := [d1, d2, d3, d4] }
  | _ => none }
def FnHdMatchesWrongFalsely : Prop := fnHdMatchesRow.holds Tryd.pinned (OpenSpec.ofChange fnHdMatchesWrong)

/-- 'laws.FnIiHas': WHATEVER THE INPUT: true; the input reads as it did. -/
def fnIiHasSpec : ChangeSpec := { name := "fnIiHas", fn := fun _ => fun
  | [d1, d2] => { results := [.lit (.bool true)], args := [d1, d2] }
  | _ => none }
def fnIiHasRow : OpenClaim := { program := "ythfgnhgijgjggaadoor", sum := "c5c7560d8402f1f49ce90c6842b8b800df5d3278e52b7f178ffd52028413ba2b", func := "pub-droshky/laws.FnIiHas", spec := "fnIiHas", inPlace := ["internal/abi.NoEscape", "internal/bytealg.MakeNoZero"], unfollowed := true, recurses := true, named := ["pub-droshky/pub/cid.Undef", "pub-droshky/pub/multihash.ErrTooShort", "pub-droshky/pub/multihash.ErrVarintBufferShort", "pub-droshky/pub/multihash.ErrVarintTooLong", "pub-droshky/pub/varint.ErrOverflow", "pub-droshky/pub/varint.ErrNotMinimal", "pub-droshky/pub/varint.ErrUnderflow", "pub-droshky/pub/llrb.pinf", "pub-droshky/pub/llrb.ninf"], apart := false, laid := [("pub-droshky/pub/llrb.ninf", laid_pub_droshky_pub_llrb_ninf), ("pub-droshky/pub/llrb.pinf", laid_pub_droshky_pub_llrb_pinf), ("pub-droshky/pub/varint.ErrOverflow", laid_pub_droshky_pub_varint_ErrOverflow), ("pub-droshky/pub/varint.ErrUnderflow", laid_pub_droshky_pub_varint_ErrUnderflow), ("pub-droshky/pub/varint.ErrNotMinimal", laid_pub_droshky_pub_varint_ErrNotMinimal), ("pub-droshky/pub/multihash.ErrTooShort", laid_pub_droshky_pub_multihash_ErrTooShort), ("pub-droshky/pub/multihash.ErrVarintBufferShort", laid_pub_droshky_pub_multihash_ErrVarintBufferShort), ("pub-droshky/pub/multihash.ErrVarintTooLong", laid_pub_droshky_pub_multihash_ErrVarintTooLong), ("pub-droshky/pub/cid.Undef", laid_pub_droshky_pub_cid_Undef)] }
def FnIiHasSaid : Prop := fnIiHasRow.holds Tryd.pinned (OpenSpec.ofChange fnIiHasSpec)

/-- ITS FALSE NEIGHBOUR: 'it returns false'. Refute it at one input. -/
def fnIiHasWrong : ChangeSpec := { name := "fnIiHas", fn := fun _ => fun
  | [d1, d2] => { results := [.lit (.bool false)], args := [d1, d2] }
  | _ => none }
def FnIiHasWrongFalsely : Prop := fnIiHasRow.holds Tryd.pinned (OpenSpec.ofChange fnIiHasWrong)

/-- 'laws.FnCdPrefix': WHATEVER THE INPUT: true; the input reads as it did. -/
def fnCdPrefixSpec : ChangeSpec := { name := "fnCdPrefix", fn := fun _ => fun
  | [d] => { results := [.lit (.bool true)], args := [d] }
  | _ => none }
def fnCdPrefixRow : OpenClaim := { program := "ythfgnhgijgjggaadoor", sum := "c5c7560d8402f1f49ce90c6842b8b800df5d3278e52b7f178ffd52028413ba2b", func := "pub-droshky/laws.FnCdPrefix", spec := "fnCdPrefix", inPlace := ["internal/abi.NoEscape", "internal/bytealg.MakeNoZero"], unfollowed := true, recurses := true, named := ["pub-droshky/pub/cid.Undef", "pub-droshky/pub/multihash.ErrTooShort", "pub-droshky/pub/multihash.ErrVarintBufferShort", "pub-droshky/pub/multihash.ErrVarintTooLong", "pub-droshky/pub/varint.ErrOverflow", "pub-droshky/pub/varint.ErrNotMinimal", "pub-droshky/pub/varint.ErrUnderflow", "io.EOF", "io.ErrUnexpectedEOF"], apart := false, laid := [("io.EOF", laid_io_EOF), ("io.ErrUnexpectedEOF", laid_io_ErrUnexpectedEOF), ("pub-droshky/pub/varint.ErrOverflow", laid_pub_droshky_pub_varint_ErrOverflow), ("pub-droshky/pub/varint.ErrUnderflow", laid_pub_droshky_pub_varint_ErrUnderflow), ("pub-droshky/pub/varint.ErrNotMinimal", laid_pub_droshky_pub_varint_ErrNotMinimal), ("pub-droshky/pub/multihash.ErrTooShort", laid_pub_droshky_pub_multihash_ErrTooShort), ("pub-droshky/pub/multihash.ErrVarintBufferShort", laid_pub_droshky_pub_multihash_ErrVarintBufferShort), ("pub-droshky/pub/multihash.ErrVarintTooLong", laid_pub_droshky_pub_multihash_ErrVarintTooLong), ("pub-droshky/pub/cid.Undef", laid_pub_droshky_pub_cid_Undef)] }
def FnCdPrefixSaid : Prop := fnCdPrefixRow.holds Tryd.pinned (OpenSpec.ofChange fnCdPrefixSpec)

/-- ITS FALSE NEIGHBOUR: 'it returns false'. Refute it at one input. -/
def fnCdPrefixWrong : ChangeSpec := { name := "fnCdPrefix", fn := fun _ => fun
  | [d] => { results := [.lit (.bool false)], args := [d] }
  | _ => none }
def FnCdPrefixWrongFalsely : Prop := fnCdPrefixRow.holds Tryd.pinned (OpenSpec.ofChange fnCdPrefixWrong)

/-- 'laws.FnLdZero': WHATEVER THE INPUT: true; the input reads as it did. -/
def fnLdZeroSpec : ChangeSpec := { name := "fnLdZero", fn := fun _ => fun
  | [d1, d2, d3] => { results := [.lit (.bool true)], args := [d1, d2, d3] }
  | _ => none }
def fnLdZeroRow : OpenClaim := { program := "ythfgnhgijgjggaadoor", sum := "c5c7560d8402f1f49ce90c6842b8b800df5d3278e52b7f178ffd52028413ba2b", func := "pub-droshky/laws.FnLdZero", spec := "fnLdZero", unfollowed := true, recurses := true, named := ["io.EOF", "io.ErrUnexpectedEOF", "pub-droshky/pub/util.ErrSectionTooLarge", "pub-droshky/pub/varint.ErrOverflow", "pub-droshky/pub/varint.ErrNotMinimal", "io.ErrShortBuffer"], apart := false, laid := [("io.ErrShortBuffer", laid_io_ErrShortBuffer), ("io.EOF", laid_io_EOF), ("io.ErrUnexpectedEOF", laid_io_ErrUnexpectedEOF), ("pub-droshky/pub/varint.ErrOverflow", laid_pub_droshky_pub_varint_ErrOverflow), ("pub-droshky/pub/varint.ErrNotMinimal", laid_pub_droshky_pub_varint_ErrNotMinimal), ("pub-droshky/pub/util.ErrSectionTooLarge", laid_pub_droshky_pub_util_ErrSectionTooLarge)] }
def FnLdZeroSaid : Prop := fnLdZeroRow.holds Tryd.pinned (OpenSpec.ofChange fnLdZeroSpec)

/-- ITS FALSE NEIGHBOUR: 'it returns false'. Refute it at one input. -/
def fnLdZeroWrong : ChangeSpec := { name := "fnLdZero", fn := fun _ => fun
  | [d1, d2, d3] => { results := [.lit (.bool false)], args := [d1, d2, d3] }
  | _ => none }
def FnLdZeroWrongFalsely : Prop := fnLdZeroRow.holds Tryd.pinned (OpenSpec.ofChange fnLdZeroWrong)

/-- 'laws.FnLdWrite': WHATEVER THE INPUT: true; the input reads as it did. -/
def fnLdWriteSpec : ChangeSpec := { name := "fnLdWrite", fn := fun _ => fun
  | [d] => { results := [.lit (.bool true)], args := [d] }
  | _ => none }
def fnLdWriteRow : OpenClaim := { program := "ythfgnhgijgjggaadoor", sum := "c5c7560d8402f1f49ce90c6842b8b800df5d3278e52b7f178ffd52028413ba2b", func := "pub-droshky/laws.FnLdWrite", spec := "fnLdWrite", unfollowed := true, recurses := true, named := ["io.EOF", "io.ErrUnexpectedEOF", "pub-droshky/pub/util.ErrSectionTooLarge", "pub-droshky/pub/varint.ErrOverflow", "pub-droshky/pub/varint.ErrNotMinimal", "io.ErrShortBuffer"], apart := false, laid := [("io.ErrShortBuffer", laid_io_ErrShortBuffer), ("io.EOF", laid_io_EOF), ("io.ErrUnexpectedEOF", laid_io_ErrUnexpectedEOF), ("pub-droshky/pub/varint.ErrOverflow", laid_pub_droshky_pub_varint_ErrOverflow), ("pub-droshky/pub/varint.ErrNotMinimal", laid_pub_droshky_pub_varint_ErrNotMinimal), ("pub-droshky/pub/util.ErrSectionTooLarge", laid_pub_droshky_pub_util_ErrSectionTooLarge)] }
def FnLdWriteSaid : Prop := fnLdWriteRow.holds Tryd.pinned (OpenSpec.ofChange fnLdWriteSpec)

/-- ITS FALSE NEIGHBOUR: 'it returns false'. Refute it at one input. -/
def fnLdWriteWrong : ChangeSpec := { name := "fnLdWrite", fn := fun _ => fun
  | [d] => { results := [.lit (.bool false)], args := [d] }
  | _ => none }
def FnLdWriteWrongFalsely : Prop := fnLdWriteRow.holds Tryd.pinned (OpenSpec.ofChange fnLdWriteWrong)

/-- 'laws.FnSeHead': WHATEVER THE INPUT: true; the input reads as it did. -/
def fnSeHeadSpec : ChangeSpec := { name := "fnSeHead", fn := fun _ => fun
  | [d1, d2, d3] => { results := [.lit (.bool true)], args := [d1, d2, d3] }
  | _ => none }
def fnSeHeadRow : OpenClaim := { program := "ythfgnhgijgjggaadoor", sum := "c5c7560d8402f1f49ce90c6842b8b800df5d3278e52b7f178ffd52028413ba2b", func := "pub-droshky/laws.FnSeHead", spec := "fnSeHead", unfollowed := true, recurses := true, named := ["pub-droshky/pub/cid.Undef", "io.EOF", "io.ErrUnexpectedEOF", "pub-droshky/pub/util.ErrSectionTooLarge", "pub-droshky/pub/varint.ErrOverflow", "pub-droshky/pub/varint.ErrNotMinimal", "pub-droshky/pub/multihash.ErrTooShort", "pub-droshky/pub/multihash.ErrVarintBufferShort", "pub-droshky/pub/multihash.ErrVarintTooLong", "pub-droshky/pub/varint.ErrUnderflow", "io.ErrShortBuffer"], apart := false, laid := [("io.ErrShortBuffer", laid_io_ErrShortBuffer), ("io.EOF", laid_io_EOF), ("io.ErrUnexpectedEOF", laid_io_ErrUnexpectedEOF), ("pub-droshky/pub/varint.ErrOverflow", laid_pub_droshky_pub_varint_ErrOverflow), ("pub-droshky/pub/varint.ErrUnderflow", laid_pub_droshky_pub_varint_ErrUnderflow), ("pub-droshky/pub/varint.ErrNotMinimal", laid_pub_droshky_pub_varint_ErrNotMinimal), ("pub-droshky/pub/multihash.ErrTooShort", laid_pub_droshky_pub_multihash_ErrTooShort), ("pub-droshky/pub/multihash.ErrVarintBufferShort", laid_pub_droshky_pub_multihash_ErrVarintBufferShort), ("pub-droshky/pub/multihash.ErrVarintTooLong", laid_pub_droshky_pub_multihash_ErrVarintTooLong), ("pub-droshky/pub/cid.Undef", laid_pub_droshky_pub_cid_Undef), ("pub-droshky/pub/util.ErrSectionTooLarge", laid_pub_droshky_pub_util_ErrSectionTooLarge)] }
def FnSeHeadSaid : Prop := fnSeHeadRow.holds Tryd.pinned (OpenSpec.ofChange fnSeHeadSpec)

/-- ITS FALSE NEIGHBOUR: 'it returns false'. Refute it at one input. -/
def fnSeHeadWrong : ChangeSpec := { name := "fnSeHead", fn := fun _ => fun
  | [d1, d2, d3] => { results := [.lit (.bool false)], args := [d1, d2, d3] }
  | _ => none }
def FnSeHeadWrongFalsely : Prop := fnSeHeadRow.holds Tryd.pinned (OpenSpec.ofChange fnSeHeadWrong)

/-- 'laws.FnSeBoth': WHATEVER THE INPUT: true; the input reads as it did. -/
def fnSeBothSpec : ChangeSpec := { name := "fnSeBoth", fn := fun _ => fun
  | [d1, d2] => { results := [.lit (.bool true)], args := [d1, d2] }
  | _ => none }
def fnSeBothRow : OpenClaim := { program := "ythfgnhgijgjggaadoor", sum := "c5c7560d8402f1f49ce90c6842b8b800df5d3278e52b7f178ffd52028413ba2b", func := "pub-droshky/laws.FnSeBoth", spec := "fnSeBoth", unfollowed := true, recurses := true, named := ["io.EOF", "io.ErrUnexpectedEOF", "pub-droshky/pub/util.ErrSectionTooLarge", "pub-droshky/pub/varint.ErrOverflow", "pub-droshky/pub/varint.ErrNotMinimal", "io.ErrShortBuffer", "pub-droshky/pub/cid.Undef", "pub-droshky/pub/multihash.ErrTooShort", "pub-droshky/pub/multihash.ErrVarintBufferShort", "pub-droshky/pub/multihash.ErrVarintTooLong", "pub-droshky/pub/varint.ErrUnderflow"], apart := false, laid := [("io.ErrShortBuffer", laid_io_ErrShortBuffer), ("io.EOF", laid_io_EOF), ("io.ErrUnexpectedEOF", laid_io_ErrUnexpectedEOF), ("pub-droshky/pub/varint.ErrOverflow", laid_pub_droshky_pub_varint_ErrOverflow), ("pub-droshky/pub/varint.ErrUnderflow", laid_pub_droshky_pub_varint_ErrUnderflow), ("pub-droshky/pub/varint.ErrNotMinimal", laid_pub_droshky_pub_varint_ErrNotMinimal), ("pub-droshky/pub/multihash.ErrTooShort", laid_pub_droshky_pub_multihash_ErrTooShort), ("pub-droshky/pub/multihash.ErrVarintBufferShort", laid_pub_droshky_pub_multihash_ErrVarintBufferShort), ("pub-droshky/pub/multihash.ErrVarintTooLong", laid_pub_droshky_pub_multihash_ErrVarintTooLong), ("pub-droshky/pub/cid.Undef", laid_pub_droshky_pub_cid_Undef), ("pub-droshky/pub/util.ErrSectionTooLarge", laid_pub_droshky_pub_util_ErrSectionTooLarge)] }
def FnSeBothSaid : Prop := fnSeBothRow.holds Tryd.pinned (OpenSpec.ofChange fnSeBothSpec)

/-- ITS FALSE NEIGHBOUR: 'it returns false'. Refute it at one input. -/
def fnSeBothWrong : ChangeSpec := { name := "fnSeBoth", fn := fun _ => fun
  | [d1, d2] => { results := [.lit (.bool false)], args := [d1, d2] }
  | _ => none }
def FnSeBothWrongFalsely : Prop := fnSeBothRow.holds Tryd.pinned (OpenSpec.ofChange fnSeBothWrong)

/- THE SECOND FORM. 'bulk': how many values and letters a reading holds, each counted each time it is reached (what is shared counts as often as it is met; a slice's spare places count too). A statement '..UptoSaid' is the law's where the arguments, and the package variables that the reading takes, are together of bulk at most 1048576: NARROWER than '..Said'. Prove '..Said' where nothing that the law and all that it calls make is longer than what came in: it says more and counts as full. Else prove '..UptoSaid'. A law counts once. -/
mutual
def uptoBulk {H : Type} : DataW H → Nat
  | .lit (.string bytes) => bytes.length + 1
  | .lit _ => 1
  | .nil => 1
  | .ptr d => uptoBulk d + 1
  | .slice elems spare => uptoBulkAll elems + uptoBulkAll spare + 1
  | .agg parts => uptoBulkAll parts + 1
  | .iface _ d => uptoBulk d + 1
  | .map entries => uptoBulkEntries entries + 1
  | .held _ => 1
def uptoBulkAll {H : Type} : List (DataW H) → Nat
  | [] => 0
  | d :: r => uptoBulk d + uptoBulkAll r
def uptoBulkEntries {H : Type} : List (Lit × DataW H) → Nat
  | [] => 0
  | x :: r => uptoBulkEntry x + uptoBulkEntries r
def uptoBulkEntry {H : Type} : Lit × DataW H → Nat
  | (.string bytes, d) => bytes.length + uptoBulk d + 1
  | (_, d) => uptoBulk d + 1
 end
def uptoSmall : (H : Type) → List (DataW H) → Bool := fun _ ds => decide (uptoBulkAll ds ≤ 1048576)
def OpenSpec.upto (s : _root_.Go.ChangeSpec) : _root_.Go.OpenSpec := { _root_.Go.OpenSpec.ofChange s with cond := some uptoSmall }

/-- 'laws.FnHdMatches', WHERE WHAT IT READS IS OF BULK AT MOST 1048576: true; the input reads as it did. -/
def fnHdMatchesUptoRow : OpenClaim := { program := "ythfgnhgijgjggaadoor", sum := "c5c7560d8402f1f49ce90c6842b8b800df5d3278e52b7f178ffd52028413ba2b", func := "pub-droshky/laws.FnHdMatches", spec := "fnHdMatches", inPlace := ["internal/abi.NoEscape", "internal/bytealg.MakeNoZero"], unfollowed := true, recurses := true, named := ["pub-droshky/pub/cid.Undef", "pub-droshky/pub/multihash.ErrTooShort", "pub-droshky/pub/multihash.ErrVarintBufferShort", "pub-droshky/pub/multihash.ErrVarintTooLong", "pub-droshky/pub/varint.ErrOverflow", "pub-droshky/pub/varint.ErrNotMinimal", "pub-droshky/pub/varint.ErrUnderflow"], apart := false, laid := [("pub-droshky/pub/varint.ErrOverflow", laid_pub_droshky_pub_varint_ErrOverflow), ("pub-droshky/pub/varint.ErrUnderflow", laid_pub_droshky_pub_varint_ErrUnderflow), ("pub-droshky/pub/varint.ErrNotMinimal", laid_pub_droshky_pub_varint_ErrNotMinimal), ("pub-droshky/pub/multihash.ErrTooShort", laid_pub_droshky_pub_multihash_ErrTooShort), ("pub-droshky/pub/multihash.ErrVarintBufferShort", laid_pub_droshky_pub_multihash_ErrVarintBufferShort), ("pub-droshky/pub/multihash.ErrVarintTooLong", laid_pub_droshky_pub_multihash_ErrVarintTooLong), ("pub-droshky/pub/cid.Undef", laid_pub_droshky_pub_cid_Undef)], narrowed := true }
def FnHdMatchesUptoSaid : Prop := fnHdMatchesUptoRow.holds Tryd.pinned (OpenSpec.upto fnHdMatchesSpec)

/-- 'laws.FnIiHas', WHERE WHAT IT READS IS OF BULK AT MOST 1048576: true; the input reads as it did. -/
def fnIiHasUptoRow : OpenClaim := { program := "ythfgnhgijgjggaadoor", sum := "c5c7560d8402f1f49ce90c6842b8b800df5d3278e52b7f178ffd52028413ba2b", func := "pub-droshky/laws.FnIiHas", spec := "fnIiHas", inPlace := ["internal/abi.NoEscape", "internal/bytealg.MakeNoZero"], unfollowed := true, recurses := true, named := ["pub-droshky/pub/cid.Undef", "pub-droshky/pub/multihash.ErrTooShort", "pub-droshky/pub/multihash.ErrVarintBufferShort", "pub-droshky/pub/multihash.ErrVarintTooLong", "pub-droshky/pub/varint.ErrOverflow", "pub-droshky/pub/varint.ErrNotMinimal", "pub-droshky/pub/varint.ErrUnderflow", "pub-droshky/pub/llrb.pinf", "pub-droshky/pub/llrb.ninf"], apart := false, laid := [("pub-droshky/pub/llrb.ninf", laid_pub_droshky_pub_llrb_ninf), ("pub-droshky/pub/llrb.pinf", laid_pub_droshky_pub_llrb_pinf), ("pub-droshky/pub/varint.ErrOverflow", laid_pub_droshky_pub_varint_ErrOverflow), ("pub-droshky/pub/varint.ErrUnderflow", laid_pub_droshky_pub_varint_ErrUnderflow), ("pub-droshky/pub/varint.ErrNotMinimal", laid_pub_droshky_pub_varint_ErrNotMinimal), ("pub-droshky/pub/multihash.ErrTooShort", laid_pub_droshky_pub_multihash_ErrTooShort), ("pub-droshky/pub/multihash.ErrVarintBufferShort", laid_pub_droshky_pub_multihash_ErrVarintBufferShort), ("pub-droshky/pub/multihash.ErrVarintTooLong", laid_pub_droshky_pub_multihash_ErrVarintTooLong), ("pub-droshky/pub/cid.Undef", laid_pub_droshky_pub_cid_Undef)], narrowed := true }
def FnIiHasUptoSaid : Prop := fnIiHasUptoRow.holds Tryd.pinned (OpenSpec.upto fnIiHasSpec)

/-- 'laws.FnCdPrefix', WHERE WHAT IT READS IS OF BULK AT MOST 1048576: true; the input reads as it did. -/
def fnCdPrefixUptoRow : OpenClaim := { program := "ythfgnhgijgjggaadoor", sum := "c5c7560d8402f1f49ce90c6842b8b800df5d3278e52b7f178ffd52028413ba2b", func := "pub-droshky/laws.FnCdPrefix", spec := "fnCdPrefix", inPlace := ["internal/abi.NoEscape", "internal/bytealg.MakeNoZero"], unfollowed := true, recurses := true, named := ["pub-droshky/pub/cid.Undef", "pub-droshky/pub/multihash.ErrTooShort", "pub-droshky/pub/multihash.ErrVarintBufferShort", "pub-droshky/pub/multihash.ErrVarintTooLong", "pub-droshky/pub/varint.ErrOverflow", "pub-droshky/pub/varint.ErrNotMinimal", "pub-droshky/pub/varint.ErrUnderflow", "io.EOF", "io.ErrUnexpectedEOF"], apart := false, laid := [("io.EOF", laid_io_EOF), ("io.ErrUnexpectedEOF", laid_io_ErrUnexpectedEOF), ("pub-droshky/pub/varint.ErrOverflow", laid_pub_droshky_pub_varint_ErrOverflow), ("pub-droshky/pub/varint.ErrUnderflow", laid_pub_droshky_pub_varint_ErrUnderflow), ("pub-droshky/pub/varint.ErrNotMinimal", laid_pub_droshky_pub_varint_ErrNotMinimal), ("pub-droshky/pub/multihash.ErrTooShort", laid_pub_droshky_pub_multihash_ErrTooShort), ("pub-droshky/pub/multihash.ErrVarintBufferShort", laid_pub_droshky_pub_multihash_ErrVarintBufferShort), ("pub-droshky/pub/multihash.ErrVarintTooLong", laid_pub_droshky_pub_multihash_ErrVarintTooLong), ("pub-droshky/pub/cid.Undef", laid_pub_droshky_pub_cid_Undef)], narrowed := true }
def FnCdPrefixUptoSaid : Prop := fnCdPrefixUptoRow.holds Tryd.pinned (OpenSpec.upto fnCdPrefixSpec)

/-- 'laws.FnLdZero', WHERE WHAT IT READS IS OF BULK AT MOST 1048576: true; the input reads as it did. -/
def fnLdZeroUptoRow : OpenClaim := { program := "ythfgnhgijgjggaadoor", sum := "c5c7560d8402f1f49ce90c6842b8b800df5d3278e52b7f178ffd52028413ba2b", func := "pub-droshky/laws.FnLdZero", spec := "fnLdZero", unfollowed := true, recurses := true, named := ["io.EOF", "io.ErrUnexpectedEOF", "pub-droshky/pub/util.ErrSectionTooLarge", "pub-droshky/pub/varint.ErrOverflow", "pub-droshky/pub/varint.ErrNotMinimal", "io.ErrShortBuffer"], apart := false, laid := [("io.ErrShortBuffer", laid_io_ErrShortBuffer), ("io.EOF", laid_io_EOF), ("io.ErrUnexpectedEOF", laid_io_ErrUnexpectedEOF), ("pub-droshky/pub/varint.ErrOverflow", laid_pub_droshky_pub_varint_ErrOverflow), ("pub-droshky/pub/varint.ErrNotMinimal", laid_pub_droshky_pub_varint_ErrNotMinimal), ("pub-droshky/pub/util.ErrSectionTooLarge", laid_pub_droshky_pub_util_ErrSectionTooLarge)], narrowed := true }
def FnLdZeroUptoSaid : Prop := fnLdZeroUptoRow.holds Tryd.pinned (OpenSpec.upto fnLdZeroSpec)

/-- 'laws.FnLdWrite', WHERE WHAT IT READS IS OF BULK AT MOST 1048576: true; the input reads as it did. -/
def fnLdWriteUptoRow : OpenClaim := { program := "ythfgnhgijgjggaadoor", sum := "c5c7560d8402f1f49ce90c6842b8b800df5d3278e52b7f178ffd52028413ba2b", func := "pub-droshky/laws.FnLdWrite", spec := "fnLdWrite", unfollowed := true, recurses := true, named := ["io.EOF", "io.ErrUnexpectedEOF", "pub-droshky/pub/util.ErrSectionTooLarge", "pub-droshky/pub/varint.ErrOverflow", "pub-droshky/pub/varint.ErrNotMinimal", "io.ErrShortBuffer"], apart := false, laid := [("io.ErrShortBuffer", laid_io_ErrShortBuffer), ("io.EOF", laid_io_EOF), ("io.ErrUnexpectedEOF", laid_io_ErrUnexpectedEOF), ("pub-droshky/pub/varint.ErrOverflow", laid_pub_droshky_pub_varint_ErrOverflow), ("pub-droshky/pub/varint.ErrNotMinimal", laid_pub_droshky_pub_varint_ErrNotMinimal), ("pub-droshky/pub/util.ErrSectionTooLarge", laid_pub_droshky_pub_util_ErrSectionTooLarge)], narrowed := true }
def FnLdWriteUptoSaid : Prop := fnLdWriteUptoRow.holds Tryd.pinned (OpenSpec.upto fnLdWriteSpec)

/-- 'laws.FnSeHead', WHERE WHAT IT READS IS OF BULK AT MOST 1048576: true; the input reads as it did. -/
def fnSeHeadUptoRow : OpenClaim := { program := "ythfgnhgijgjggaadoor", sum := "c5c7560d8402f1f49ce90c6842b8b800df5d3278e52b7f178ffd52028413ba2b", func := "pub-droshky/laws.FnSeHead", spec := "fnSeHead", unfollowed := true, recurses := true, named := ["pub-droshky/pub/cid.Undef", "io.EOF", "io.ErrUnexpectedEOF", "pub-droshky/pub/util.ErrSectionTooLarge", "pub-droshky/pub/varint.ErrOverflow", "pub-droshky/pub/varint.ErrNotMinimal", "pub-droshky/pub/multihash.ErrTooShort", "pub-droshky/pub/multihash.ErrVarintBufferShort", "pub-droshky/pub/multihash.ErrVarintTooLong", "pub-droshky/pub/varint.ErrUnderflow", "io.ErrShortBuffer"], apart := false, laid := [("io.ErrShortBuffer", laid_io_ErrShortBuffer), ("io.EOF", laid_io_EOF), ("io.ErrUnexpectedEOF", laid_io_ErrUnexpectedEOF), ("pub-droshky/pub/varint.ErrOverflow", laid_pub_droshky_pub_varint_ErrOverflow), ("pub-droshky/pub/varint.ErrUnderflow", laid_pub_droshky_pub_varint_ErrUnderflow), ("pub-droshky/pub/varint.ErrNotMinimal", laid_pub_droshky_pub_varint_ErrNotMinimal), ("pub-droshky/pub/multihash.ErrTooShort", laid_pub_droshky_pub_multihash_ErrTooShort), ("pub-droshky/pub/multihash.ErrVarintBufferShort", laid_pub_droshky_pub_multihash_ErrVarintBufferShort), ("pub-droshky/pub/multihash.ErrVarintTooLong", laid_pub_droshky_pub_multihash_ErrVarintTooLong), ("pub-droshky/pub/cid.Undef", laid_pub_droshky_pub_cid_Undef), ("pub-droshky/pub/util.ErrSectionTooLarge", laid_pub_droshky_pub_util_ErrSectionTooLarge)], narrowed := true }
def FnSeHeadUptoSaid : Prop := fnSeHeadUptoRow.holds Tryd.pinned (OpenSpec.upto fnSeHeadSpec)

/-- 'laws.FnSeBoth', WHERE WHAT IT READS IS OF BULK AT MOST 1048576: true; the input reads as it did. -/
def fnSeBothUptoRow : OpenClaim := { program := "ythfgnhgijgjggaadoor", sum := "c5c7560d8402f1f49ce90c6842b8b800df5d3278e52b7f178ffd52028413ba2b", func := "pub-droshky/laws.FnSeBoth", spec := "fnSeBoth", unfollowed := true, recurses := true, named := ["io.EOF", "io.ErrUnexpectedEOF", "pub-droshky/pub/util.ErrSectionTooLarge", "pub-droshky/pub/varint.ErrOverflow", "pub-droshky/pub/varint.ErrNotMinimal", "io.ErrShortBuffer", "pub-droshky/pub/cid.Undef", "pub-droshky/pub/multihash.ErrTooShort", "pub-droshky/pub/multihash.ErrVarintBufferShort", "pub-droshky/pub/multihash.ErrVarintTooLong", "pub-droshky/pub/varint.ErrUnderflow"], apart := false, laid := [("io.ErrShortBuffer", laid_io_ErrShortBuffer), ("io.EOF", laid_io_EOF), ("io.ErrUnexpectedEOF", laid_io_ErrUnexpectedEOF), ("pub-droshky/pub/varint.ErrOverflow", laid_pub_droshky_pub_varint_ErrOverflow), ("pub-droshky/pub/varint.ErrUnderflow", laid_pub_droshky_pub_varint_ErrUnderflow), ("pub-droshky/pub/varint.ErrNotMinimal", laid_pub_droshky_pub_varint_ErrNotMinimal), ("pub-droshky/pub/multihash.ErrTooShort", laid_pub_droshky_pub_multihash_ErrTooShort), ("pub-droshky/pub/multihash.ErrVarintBufferShort", laid_pub_droshky_pub_multihash_ErrVarintBufferShort), ("pub-droshky/pub/multihash.ErrVarintTooLong", laid_pub_droshky_pub_multihash_ErrVarintTooLong), ("pub-droshky/pub/cid.Undef", laid_pub_droshky_pub_cid_Undef), ("pub-droshky/pub/util.ErrSectionTooLarge", laid_pub_droshky_pub_util_ErrSectionTooLarge)], narrowed := true }
def FnSeBothUptoSaid : Prop := fnSeBothUptoRow.holds Tryd.pinned (OpenSpec.upto fnSeBothSpec)

end Rows
end Go.Proofs.YthfgnhgijgjggaaDoor
