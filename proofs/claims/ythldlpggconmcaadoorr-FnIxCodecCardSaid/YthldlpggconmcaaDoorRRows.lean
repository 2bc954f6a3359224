/-
  NARROWER THAN 'FOR EVERY INPUT', by the rows' own cells (each row's printed sentence says how): FnHdMatches: laid · FnIxCodec: laid · FnCdBytes: laid · FnCdSame: laid · FnCdByte: laid · FnCdCast: laid · FnIiHas: laid · FnCdPrefix: laid · FnLdZero: laid · FnLdWrite: laid.
  DERIVED. THE GIVEN ROWS OF THIS SEAT. 10 by the template 'for every input the law returns true; each argument reads behind the call as it read before'; 0 by the template 'total and deterministic' (their statements: YthldlpggconmcaaDoorRTotals.lean).
  GIVEN WITH THE SEED: the statements are not yours to turn. If you find one false, say at which input.
  Laid BY PROGRAM, IN A SANDBOX (cutbox-rows.mjs): the forced cells as the released guide's own fill.sh prints them over the translation df2fa0984e4a6c36… (all of the seat's roots in one cut). By AI agents, Wed Nov 11 2026. No macro, syntax, notation, axiom, sorry.
-/
import Derived.Test.YthldlpggconmcaaDoorRChecked
import GoSem.Claim
import GoSem.ClaimJoined
import GoSem.ClaimMapViews
import Derived.JoinedTies
import Derived.KernelRfl
namespace Go.Proofs.YthldlpggconmcaaDoorR
/- THE CELL 'sum', in the pinned program and in every row, IS THE sha256 OF THE DUMP (.gsa) THAT YthldlpggconmcaaDoorRProg.lean LOADS. Nothing in Lean hashes anything: it is a label: what it is worth is what the hold of that sum in a sandbox is worth. -/
noncomputable def Tryd.pinned : Pinned := { name := "ythldlpggconmcaadoorr", sum := "df2fa0984e4a6c3657f5b4616f73d06171cc7ef8744fbb53678226c89808ef86", checked := Tryd.checked }
namespace Rows
def none {H : Type} : Left H := { results := [], args := [] }

/- WHAT THE LISTED PACKAGE-LEVEL VARIABLES READ AS WHEN THE CALL BEGINS. Each datum BY PROGRAM (the guide's laid-datum.mjs) off the statement by which the dump's own 'gosem.cut.vars' lays the variable. In a bare row this is a premise. The card (YthldlpggconmcaaDoorRCards.lean) ties it to the program's text. -/
def laid_pub_droshky_pub_varint_ErrOverflow {H : Type} : DataW H := .iface "*errors.errorString" (.ptr (.agg [.lit (.string [118, 97, 114, 105, 110, 116, 115, 32, 108, 97, 114, 103, 101, 114, 32, 116, 104, 97, 110, 32, 117, 105, 110, 116, 54, 51, 32, 110, 111, 116, 32, 115, 117, 112, 112, 111, 114, 116, 101, 100])]))
def laid_pub_droshky_pub_varint_ErrUnderflow {H : Type} : DataW H := .iface "*errors.errorString" (.ptr (.agg [.lit (.string [118, 97, 114, 105, 110, 116, 115, 32, 109, 97, 108, 102, 111, 114, 109, 101, 100, 44, 32, 99, 111, 117, 108, 100, 32, 110, 111, 116, 32, 114, 101, 97, 99, 104, 32, 116, 104, 101, 32, 101, 110, 100])]))
def laid_pub_droshky_pub_varint_ErrNotMinimal {H : Type} : DataW H := .iface "*errors.errorString" (.ptr (.agg [.lit (.string [118, 97, 114, 105, 110, 116, 32, 110, 111, 116, 32, 109, 105, 110, 105, 109, 97, 108, 108, 121, 32, 101, 110, 99, 111, 100, 101, 100])]))
def laid_pub_droshky_pub_multihash_ErrTooShort {H : Type} : DataW H := .iface "*errors.errorString" (.ptr (.agg [.lit (.string [109, 117, 108, 116, 105, 104, 97, 115, 104, 32, 116, 111, 111, 32, 115, 104, 111, 114, 116, 46, 32, 109, 117, 115, 116, 32, 98, 101, 32, 62, 61, 32, 50, 32, 98, 121, 116, 101, 115])]))
def laid_pub_droshky_pub_multihash_ErrVarintBufferShort {H : Type} : DataW H := .iface "*errors.errorString" (.ptr (.agg [.lit (.string [117, 118, 97, 114, 105, 110, 116, 58, 32, 98, 117, 102, 102, 101, 114, 32, 116, 111, 111, 32, 115, 109, 97, 108, 108])]))
def laid_pub_droshky_pub_multihash_ErrVarintTooLong {H : Type} : DataW H := .iface "*errors.errorString" (.ptr (.agg [.lit (.string [117, 118, 97, 114, 105, 110, 116, 58, 32, 118, 97, 114, 105, 110, 116, 32, 116, 111, 111, 32, 98, 105, 103, 32, 40, 109, 97, 120, 32, 54, 52, 98, 105, 116, 41])]))
def laid_pub_droshky_pub_cid_Undef {H : Type} : DataW H := .agg [.lit (.string [])]
def laid_io_EOF {H : Type} : DataW H := .iface "*errors.errorString" (.ptr (.agg [.lit (.string [69, 79, 70])]))
def laid_io_ErrUnexpectedEOF {H : Type} : DataW H := .iface "*errors.errorString" (.ptr (.agg [.lit (.string [117, 110, 101, 120, 112, 101, 99, 116, 101, 100, 32, 69, 79, 70])]))
def laid_pub_droshky_pub_llrb_ninf {H : Type} : DataW H := .agg []
def laid_pub_droshky_pub_llrb_pinf {H : Type} : DataW H := .agg []
def laid_io_ErrShortBuffer {H : Type} : DataW H := .iface "*errors.errorString" (.ptr (.agg [.lit (.string [115, 104, 111, 114, 116, 32, 98, 117, 102, 102, 101, 114])]))
def laid_pub_droshky_pub_util_ErrSectionTooLarge {H : Type} : DataW H := .iface "*errors.errorString" (.ptr (.agg [.lit (.string [105, 110, 118, 97, 108, 105, 100, 32, 115, 101, 99, 116, 105, 111, 110, 32, 100, 97, 116, 97, 44, 32, 108, 101, 110, 103, 116, 104, 32, 111, 102, 32, 114, 101, 97, 100, 32, 98, 101, 121, 111, 110, 100, 32, 97, 108, 108, 111, 119, 97, 98, 108, 101, 32, 109, 97, 120, 105, 109, 117, 109])]))

/-- 'laws.FnHdMatches': WHATEVER THE INPUT: true; the input reads as it did. -/
def fnHdMatchesSpec : ChangeSpec := { name := "fnHdMatches", fn := fun _ => fun
  | [d1, d2, d3, d4] => { results := [.lit (.bool true)], args := [d1, d2, d3, d4] }
  | _ => none }
def fnHdMatchesRow : OpenClaim := { program := "ythldlpggconmcaadoorr", sum := "df2fa0984e4a6c3657f5b4616f73d06171cc7ef8744fbb53678226c89808ef86", func := "pub-droshky/laws.FnHdMatches", spec := "fnHdMatches", inPlace := ["internal/abi.NoEscape", "internal/bytealg.MakeNoZero"], unfollowed := true, recurses := true, named := ["pub-droshky/pub/cid.Undef", "pub-droshky/pub/multihash.ErrTooShort", "pub-droshky/pub/multihash.ErrVarintBufferShort", "pub-droshky/pub/multihash.ErrVarintTooLong", "pub-droshky/pub/varint.ErrOverflow", "pub-droshky/pub/varint.ErrNotMinimal", "pub-droshky/pub/varint.ErrUnderflow"], apart := false, laid := [("pub-droshky/pub/varint.ErrOverflow", laid_pub_droshky_pub_varint_ErrOverflow), ("pub-droshky/pub/varint.ErrUnderflow", laid_pub_droshky_pub_varint_ErrUnderflow), ("pub-droshky/pub/varint.ErrNotMinimal", laid_pub_droshky_pub_varint_ErrNotMinimal), ("pub-droshky/pub/multihash.ErrTooShort", laid_pub_droshky_pub_multihash_ErrTooShort), ("pub-droshky/pub/multihash.ErrVarintBufferShort", laid_pub_droshky_pub_multihash_ErrVarintBufferShort), ("pub-droshky/pub/multihash.ErrVarintTooLong", laid_pub_droshky_pub_multihash_ErrVarintTooLong), ("pub-droshky/pub/cid.Undef", laid_pub_droshky_pub_cid_Undef)] }
def FnHdMatchesSaid : Prop := fnHdMatchesRow.holds Tryd.pinned (OpenSpec.ofChange fnHdMatchesSpec)

/-- ITS FALSE NEIGHBOUR: 'it returns false'. Refute it at one input. -/
def fnHdMatchesWrong : ChangeSpec := { name := "fnHdMatches", fn := fun _ => fun
  | [d1, d2, d3, d4] => { results := [.lit (.bool false)], args := [d1, d2, d3, d4] }
  | _ => none }
def FnHdMatchesWrongFalsely : Prop := fnHdMatchesRow.holds Tryd.pinned (OpenSpec.ofChange fnHdMatchesWrong)

/-- 'laws.FnIxCodec': WHATEVER THE INPUT: true; the input reads as it did. -/
def fnIxCodecSpec : ChangeSpec := { name := "fnIxCodec", fn := fun _ => fun
  | [d] => { results := [.lit (.bool true)], args := [d] }
  | _ => none }
def fnIxCodecRow : OpenClaim := { program := "ythldlpggconmcaadoorr", sum := "df2fa0984e4a6c3657f5b4616f73d06171cc7ef8744fbb53678226c89808ef86", func := "pub-droshky/laws.FnIxCodec", spec := "fnIxCodec", unfollowed := true, recurses := true, named := ["io.EOF", "io.ErrUnexpectedEOF", "pub-droshky/pub/varint.ErrOverflow", "pub-droshky/pub/varint.ErrNotMinimal"], apart := false, laid := [("io.EOF", laid_io_EOF), ("io.ErrUnexpectedEOF", laid_io_ErrUnexpectedEOF), ("pub-droshky/pub/varint.ErrOverflow", laid_pub_droshky_pub_varint_ErrOverflow), ("pub-droshky/pub/varint.ErrNotMinimal", laid_pub_droshky_pub_varint_ErrNotMinimal)] }
def FnIxCodecSaid : Prop := fnIxCodecRow.holds Tryd.pinned (OpenSpec.ofChange fnIxCodecSpec)

/-- ITS FALSE NEIGHBOUR: 'it returns false'. Refute it at one input. -/
def fnIxCodecWrong : ChangeSpec := { name := "fnIxCodec", fn := fun _ => fun
  | [d] => { results := [.lit (.bool false)], args := [d] }
  | _ => none }
def FnIxCodecWrongFalsely : Prop := fnIxCodecRow.holds Tryd.pinned (OpenSpec.ofChange fnIxCodecWrong)

/-- 'laws.FnCdBytes': WHATEVER THE INPUT: true; the input reads as it did. -/
def fnCdBytesSpec : ChangeSpec := { name := "fnCdBytes", fn := fun _ => fun
  | [d] => { results := [.lit (.bool true)], args := [d] }
  | _ => none }
def fnCdBytesRow : OpenClaim := { program := "ythldlpggconmcaadoorr", sum := "df2fa0984e4a6c3657f5b4616f73d06171cc7ef8744fbb53678226c89808ef86", func := "pub-droshky/laws.FnCdBytes", spec := "fnCdBytes", inPlace := ["internal/abi.NoEscape", "internal/bytealg.MakeNoZero"], unfollowed := true, recurses := true, named := ["pub-droshky/pub/cid.Undef", "pub-droshky/pub/multihash.ErrTooShort", "pub-droshky/pub/multihash.ErrVarintBufferShort", "pub-droshky/pub/multihash.ErrVarintTooLong", "pub-droshky/pub/varint.ErrOverflow", "pub-droshky/pub/varint.ErrNotMinimal", "pub-droshky/pub/varint.ErrUnderflow"], apart := false, laid := [("pub-droshky/pub/varint.ErrOverflow", laid_pub_droshky_pub_varint_ErrOverflow), ("pub-droshky/pub/varint.ErrUnderflow", laid_pub_droshky_pub_varint_ErrUnderflow), ("pub-droshky/pub/varint.ErrNotMinimal", laid_pub_droshky_pub_varint_ErrNotMinimal), ("pub-droshky/pub/multihash.ErrTooShort", laid_pub_droshky_pub_multihash_ErrTooShort), ("pub-droshky/pub/multihash.ErrVarintBufferShort", laid_pub_droshky_pub_multihash_ErrVarintBufferShort), ("pub-droshky/pub/multihash.ErrVarintTooLong", laid_pub_droshky_pub_multihash_ErrVarintTooLong), ("pub-droshky/pub/cid.Undef", laid_pub_droshky_pub_cid_Undef)] }
def FnCdBytesSaid : Prop := fnCdBytesRow.holds Tryd.pinned (OpenSpec.ofChange fnCdBytesSpec)

/-- ITS FALSE NEIGHBOUR: 'it returns false'. Refute it at one input. -/
def fnCdBytesWrong : ChangeSpec := { name := "fnCdBytes", fn := fun _ => fun
  | [d] => { results := [.lit (.bool false)], args := [d] }
  | _ => none }
def FnCdBytesWrongFalsely : Prop := fnCdBytesRow.holds Tryd.pinned (OpenSpec.ofChange fnCdBytesWrong)

/-- 'laws.FnCdSame': WHATEVER THE INPUT: true; the input reads as it did. -/
def fnCdSameSpec : ChangeSpec := { name := "fnCdSame", fn := fun _ => fun
  | [d1, d2] => { results := [.lit (.bool true)], args := [d1, d2] }
  | _ => none }
def fnCdSameRow : OpenClaim := { program := "ythldlpggconmcaadoorr", sum := "df2fa0984e4a6c3657f5b4616f73d06171cc7ef8744fbb53678226c89808ef86", func := "pub-droshky/laws.FnCdSame", spec := "fnCdSame", inPlace := ["internal/abi.NoEscape", "internal/bytealg.MakeNoZero"], unfollowed := true, recurses := true, named := ["pub-droshky/pub/cid.Undef", "pub-droshky/pub/multihash.ErrTooShort", "pub-droshky/pub/multihash.ErrVarintBufferShort", "pub-droshky/pub/multihash.ErrVarintTooLong", "pub-droshky/pub/varint.ErrOverflow", "pub-droshky/pub/varint.ErrNotMinimal", "pub-droshky/pub/varint.ErrUnderflow"], apart := false, laid := [("pub-droshky/pub/varint.ErrOverflow", laid_pub_droshky_pub_varint_ErrOverflow), ("pub-droshky/pub/varint.ErrUnderflow", laid_pub_droshky_pub_varint_ErrUnderflow), ("pub-droshky/pub/varint.ErrNotMinimal", laid_pub_droshky_pub_varint_ErrNotMinimal), ("pub-droshky/pub/multihash.ErrTooShort", laid_pub_droshky_pub_multihash_ErrTooShort), ("pub-droshky/pub/multihash.ErrVarintBufferShort", laid_pub_droshky_pub_multihash_ErrVarintBufferShort), ("pub-droshky/pub/multihash.ErrVarintTooLong", laid_pub_droshky_pub_multihash_ErrVarintTooLong), ("pub-droshky/pub/cid.Undef", laid_pub_droshky_pub_cid_Undef)] }
def FnCdSameSaid : Prop := fnCdSameRow.holds Tryd.pinned (OpenSpec.ofChange fnCdSameSpec)

/-- ITS FALSE NEIGHBOUR: 'it returns false'. Refute it at one input. -/
def fnCdSameWrong : ChangeSpec := { name := "fnCdSame", fn := fun _ => fun
  | [d1, d2] => { results := [.lit (.bool false)], args := [d1, d2] }
  | _ => none }
def FnCdSameWrongFalsely : Prop := fnCdSameRow.holds Tryd.pinned (OpenSpec.ofChange fnCdSameWrong)

/-- 'laws.FnCdByte': WHATEVER THE INPUT: true; the input reads as it did. -/
def fnCdByteSpec : ChangeSpec := { name := "fnCdByte", fn := fun _ => fun
  | [d1, d2, d3] => { results := [.lit (.bool true)], args := [d1, d2, d3] }
  | _ => none }
def fnCdByteRow : OpenClaim := { program := "ythldlpggconmcaadoorr", sum := "df2fa0984e4a6c3657f5b4616f73d06171cc7ef8744fbb53678226c89808ef86", func := "pub-droshky/laws.FnCdByte", spec := "fnCdByte", inPlace := ["internal/abi.NoEscape", "internal/bytealg.MakeNoZero"], unfollowed := true, recurses := true, named := ["pub-droshky/pub/cid.Undef", "pub-droshky/pub/multihash.ErrTooShort", "pub-droshky/pub/multihash.ErrVarintBufferShort", "pub-droshky/pub/multihash.ErrVarintTooLong", "pub-droshky/pub/varint.ErrOverflow", "pub-droshky/pub/varint.ErrNotMinimal", "pub-droshky/pub/varint.ErrUnderflow"], apart := false, laid := [("pub-droshky/pub/varint.ErrOverflow", laid_pub_droshky_pub_varint_ErrOverflow), ("pub-droshky/pub/varint.ErrUnderflow", laid_pub_droshky_pub_varint_ErrUnderflow), ("pub-droshky/pub/varint.ErrNotMinimal", laid_pub_droshky_pub_varint_ErrNotMinimal), ("pub-droshky/pub/multihash.ErrTooShort", laid_pub_droshky_pub_multihash_ErrTooShort), ("pub-droshky/pub/multihash.ErrVarintBufferShort", laid_pub_droshky_pub_multihash_ErrVarintBufferShort), ("pub-droshky/pub/multihash.ErrVarintTooLong", laid_pub_droshky_pub_multihash_ErrVarintTooLong), ("pub-droshky/pub/cid.Undef", laid_pub_droshky_pub_cid_Undef)] }
def FnCdByteSaid : Prop := fnCdByteRow.holds Tryd.pinned (OpenSpec.ofChange fnCdByteSpec)

/-- ITS FALSE NEIGHBOUR: 'it returns false'. Refute it at one input. -/
def fnCdByteWrong : ChangeSpec := { name := "fnCdByte", fn := fun _ => fun
  | [d1, d2, d3] => { results := [.lit (.bool false)], args := [d1, d2, d3] }
  | _ => none }
def FnCdByteWrongFalsely : Prop := fnCdByteRow.holds Tryd.pinned (OpenSpec.ofChange fnCdByteWrong)

/-- 'laws.FnCdCast': WHATEVER THE INPUT: true; the input reads as it did. -/
def fnCdCastSpec : ChangeSpec := { name := "fnCdCast", fn := fun _ => fun
  | [d] => { results := [.lit (.bool true)], args := [d] }
  | _ => none }
def fnCdCastRow : OpenClaim := { program := "ythldlpggconmcaadoorr", sum := "df2fa0984e4a6c3657f5b4616f73d06171cc7ef8744fbb53678226c89808ef86", func := "pub-droshky/laws.FnCdCast", spec := "fnCdCast", inPlace := ["internal/abi.NoEscape", "internal/bytealg.MakeNoZero"], unfollowed := true, recurses := true, named := ["pub-droshky/pub/cid.Undef", "pub-droshky/pub/multihash.ErrTooShort", "pub-droshky/pub/multihash.ErrVarintBufferShort", "pub-droshky/pub/multihash.ErrVarintTooLong", "pub-droshky/pub/varint.ErrOverflow", "pub-droshky/pub/varint.ErrNotMinimal", "pub-droshky/pub/varint.ErrUnderflow"], apart := false, laid := [("pub-droshky/pub/varint.ErrOverflow", laid_pub_droshky_pub_varint_ErrOverflow), ("pub-droshky/pub/varint.ErrUnderflow", laid_pub_droshky_pub_varint_ErrUnderflow), ("pub-droshky/pub/varint.ErrNotMinimal", laid_pub_droshky_pub_varint_ErrNotMinimal), ("pub-droshky/pub/multihash.ErrTooShort", laid_pub_droshky_pub_multihash_ErrTooShort), ("pub-droshky/pub/multihash.ErrVarintBufferShort", laid_pub_droshky_pub_multihash_ErrVarintBufferShort), ("pub-droshky/pub/multihash.ErrVarintTooLong", laid_pub_droshky_pub_multihash_ErrVarintTooLong), ("pub-droshky/pub/cid.Undef", laid_pub_droshky_pub_cid_Undef)] }
def FnCdCastSaid : Prop := fnCdCastRow.holds Tryd.pinned (OpenSpec.ofChange fnCdCastSpec)

/-- ITS FALSE NEIGHBOUR: 'it returns false'. Refute it at one input. -/
def fnCdCastWrong : ChangeSpec := { name := "fnCdCast", fn := fun _ => fun
  | [d] => { results := [.lit (.bool false)], args := [d] }
  | _ => none }
def FnCdCastWrongFalsely : Prop := fnCdCastRow.holds Tryd.pinned (OpenSpec.ofChange fnCdCastWrong)

/-- 'laws.FnIiHas': WHATEVER THE INPUT: true; the input reads as it did. -/
def fnIiHasSpec : ChangeSpec := { name := "fnIiHas", fn := fun _ => fun
  | [d1, d2] => { results := [.lit (.bool true)], args := [d1, d2] }
  | _ => none }
def fnIiHasRow : OpenClaim := { program := "ythldlpggconmcaadoorr", sum := "df2fa0984e4a6c3657f5b4616f73d06171cc7ef8744fbb53678226c89808ef86", func := "pub-droshky/laws.FnIiHas", spec := "fnIiHas", inPlace := ["internal/abi.NoEscape", "internal/bytealg.MakeNoZero"], unfollowed := true, recurses := true, named := ["pub-droshky/pub/cid.Undef", "pub-droshky/pub/multihash.ErrTooShort", "pub-droshky/pub/multihash.ErrVarintBufferShort", "pub-droshky/pub/multihash.ErrVarintTooLong", "pub-droshky/pub/varint.ErrOverflow", "pub-droshky/pub/varint.ErrNotMinimal", "pub-droshky/pub/varint.ErrUnderflow", "pub-droshky/pub/llrb.pinf", "pub-droshky/pub/llrb.ninf"], apart := false, laid := [("pub-droshky/pub/llrb.ninf", laid_pub_droshky_pub_llrb_ninf), ("pub-droshky/pub/llrb.pinf", laid_pub_droshky_pub_llrb_pinf), ("pub-droshky/pub/varint.ErrOverflow", laid_pub_droshky_pub_varint_ErrOverflow), ("pub-droshky/pub/varint.ErrUnderflow", laid_pub_droshky_pub_varint_ErrUnderflow), ("pub-droshky/pub/varint.ErrNotMinimal", laid_pub_droshky_pub_varint_ErrNotMinimal), ("pub-droshky/pub/multihash.ErrTooShort", laid_pub_droshky_pub_multihash_ErrTooShort), ("pub-droshky/pub/multihash.ErrVarintBufferShort", laid_pub_droshky_pub_multihash_ErrVarintBufferShort), ("pub-droshky/pub/multihash.ErrVarintTooLong", laid_pub_droshky_pub_multihash_ErrVarintTooLong), ("pub-droshky/pub/cid.Undef", laid_pub_droshky_pub_cid_Undef)] }
def FnIiHasSaid : Prop := fnIiHasRow.holds Tryd.pinned (OpenSpec.ofChange fnIiHasSpec)

/-- ITS FALSE NEIGHBOUR: 'it returns false'. Refute it at one input. -/
def fnIiHasWrong : ChangeSpec := { name := "fnIiHas", fn := fun _ => fun
  | [d1, d2] => { results := [.lit (.bool false)], args := [d1, d2] }
  | _ => none }
def FnIiHasWrongFalsely : Prop := fnIiHasRow.holds Tryd.pinned (OpenSpec.ofChange fnIiHasWrong)

/-- 'laws.FnCdPrefix': WHATEVER THE INPUT: true; the input reads as it did. -/
def fnCdPrefixSpec : ChangeSpec := { name := "fnCdPrefix", fn := fun _ => fun
  | [d] => { results := [.lit (.bool true)], args := [d] }
  | _ => none }
def fnCdPrefixRow : OpenClaim := { program := "ythldlpggconmcaadoorr", sum := "df2fa0984e4a6c3657f5b4616f73d06171cc7ef8744fbb53678226c89808ef86", func := "pub-droshky/laws.FnCdPrefix", spec := "fnCdPrefix", inPlace := ["internal/abi.NoEscape", "internal/bytealg.MakeNoZero"], unfollowed := true, recurses := true, named := ["pub-droshky/pub/cid.Undef", "pub-droshky/pub/multihash.ErrTooShort", "pub-droshky/pub/multihash.ErrVarintBufferShort", "pub-droshky/pub/multihash.ErrVarintTooLong", "pub-droshky/pub/varint.ErrOverflow", "pub-droshky/pub/varint.ErrNotMinimal", "pub-droshky/pub/varint.ErrUnderflow", "io.EOF", "io.ErrUnexpectedEOF"], apart := false, laid := [("io.EOF", laid_io_EOF), ("io.ErrUnexpectedEOF", laid_io_ErrUnexpectedEOF), ("pub-droshky/pub/varint.ErrOverflow", laid_pub_droshky_pub_varint_ErrOverflow), ("pub-droshky/pub/varint.ErrUnderflow", laid_pub_droshky_pub_varint_ErrUnderflow), ("pub-droshky/pub/varint.ErrNotMinimal", laid_pub_droshky_pub_varint_ErrNotMinimal), ("pub-droshky/pub/multihash.ErrTooShort", laid_pub_droshky_pub_multihash_ErrTooShort), ("pub-droshky/pub/multihash.ErrVarintBufferShort", laid_pub_droshky_pub_multihash_ErrVarintBufferShort), ("pub-droshky/pub/multihash.ErrVarintTooLong", laid_pub_droshky_pub_multihash_ErrVarintTooLong), ("pub-droshky/pub/cid.Undef", laid_pub_droshky_pub_cid_Undef)] }
def FnCdPrefixSaid : Prop := fnCdPrefixRow.holds Tryd.pinned (OpenSpec.ofChange fnCdPrefixSpec)

/-- ITS FALSE NEIGHBOUR: 'it returns false'. Refute it at one input. -/
def fnCdPrefixWrong : ChangeSpec := { name := "fnCdPrefix", fn := fun _ => fun
  | [d] => { results := [.lit (.bool false)], args := [d] }
  | _ => none }
def FnCdPrefixWrongFalsely : Prop := fnCdPrefixRow.holds Tryd.pinned (OpenSpec.ofChange fnCdPrefixWrong)

/-- 'laws.FnLdZero': WHATEVER THE INPUT: true; the input reads as it did. -/
def fnLdZeroSpec : ChangeSpec := { name := "fnLdZero", fn := fun _ => fun
  | [d1, d2, d3] => { results := [.lit (.bool true)], args := [d1, d2, d3] }
  | _ => none }
def fnLdZeroRow : OpenClaim := { program := "ythldlpggconmcaadoorr", sum := "df2fa0984e4a6c3657f5b4616f73d06171cc7ef8744fbb53678226c89808ef86", func := "pub-droshky/laws.FnLdZero", spec := "fnLdZero", unfollowed := true, recurses := true, named := ["io.EOF", "io.ErrUnexpectedEOF", "pub-droshky/pub/util.ErrSectionTooLarge", "pub-droshky/pub/varint.ErrOverflow", "pub-droshky/pub/varint.ErrNotMinimal", "io.ErrShortBuffer"], apart := false, laid := [("io.ErrShortBuffer", laid_io_ErrShortBuffer), ("io.EOF", laid_io_EOF), ("io.ErrUnexpectedEOF", laid_io_ErrUnexpectedEOF), ("pub-droshky/pub/varint.ErrOverflow", laid_pub_droshky_pub_varint_ErrOverflow), ("pub-droshky/pub/varint.ErrNotMinimal", laid_pub_droshky_pub_varint_ErrNotMinimal), ("pub-droshky/pub/util.ErrSectionTooLarge", laid_pub_droshky_pub_util_ErrSectionTooLarge)] }
def FnLdZeroSaid : Prop := fnLdZeroRow.holds Tryd.pinned (OpenSpec.ofChange fnLdZeroSpec)

/-- ITS FALSE NEIGHBOUR: 'it returns false'. Refute it at one input. -/
def fnLdZeroWrong : ChangeSpec := { name := "fnLdZero", fn := fun _ => fun
  | [d1, d2, d3] => { results := [.lit (.bool false)], args := [d1, d2, d3] }
  | _ => none }
def FnLdZeroWrongFalsely : Prop := fnLdZeroRow.holds Tryd.pinned (OpenSpec.ofChange fnLdZeroWrong)

/-- 'laws.FnLdWrite': WHATEVER THE INPUT: true; the input reads as it did. -/
def fnLdWriteSpec : ChangeSpec := { name := "fnLdWrite", fn := fun _ => fun
  | [d] => { results := [.lit (.bool true)], args := [d] }
  | _ => none }
def fnLdWriteRow : OpenClaim := { program := "ythldlpggconmcaadoorr", sum := "df2fa0984e4a6c3657f5b4616f73d06171cc7ef8744fbb53678226c89808ef86", func := "pub-droshky/laws.FnLdWrite", spec := "fnLdWrite", unfollowed := true, recurses := true, named := ["io.EOF", "io.ErrUnexpectedEOF", "pub-droshky/pub/util.ErrSectionTooLarge", "pub-droshky/pub/varint.ErrOverflow", "pub-droshky/pub/varint.ErrNotMinimal", "io.ErrShortBuffer"], apart := false, laid := [("io.ErrShortBuffer", laid_io_ErrShortBuffer), ("io.EOF", laid_io_EOF), ("io.ErrUnexpectedEOF", laid_io_ErrUnexpectedEOF), ("pub-droshky/pub/varint.ErrOverflow", laid_pub_droshky_pub_varint_ErrOverflow), ("pub-droshky/pub/varint.ErrNotMinimal", laid_pub_droshky_pub_varint_ErrNotMinimal), ("pub-droshky/pub/util.ErrSectionTooLarge", laid_pub_droshky_pub_util_ErrSectionTooLarge)] }
def FnLdWriteSaid : Prop := fnLdWriteRow.holds Tryd.pinned (OpenSpec.ofChange fnLdWriteSpec)

/-- ITS FALSE NEIGHBOUR: 'it returns false'. Refute it at one input. -/
def fnLdWriteWrong : ChangeSpec := { name := "fnLdWrite", fn := fun _ => fun
  | [d] => { results := [.lit (.bool false)], args := [d] }
  | _ => none }
def FnLdWriteWrongFalsely : Prop := fnLdWriteRow.holds Tryd.pinned (OpenSpec.ofChange fnLdWriteWrong)

/- THE SECOND FORM. 'bulk': how many values and letters a reading holds, each counted each time it is reached (what is shared counts as often as it is met; a slice's spare places count too). A statement '..UptoSaid' is the law's where the arguments, and the package variables that the reading takes, are together of bulk at most 1048576: NARROWER than '..Said'. Prove '..Said' where nothing that the law and all that it calls make is longer than what came in: it says more and counts as full. Else prove '..UptoSaid'. A law counts once. -/
mutual
def uptoBulk {H : Type} : DataW H → Nat
  | .lit (.string bytes) => bytes.length + 1
  | .lit _ => 1
  | .nil => 1
  | .ptr d => uptoBulk d + 1
  | .slice elems spare => uptoBulkAll elems + uptoBulkAll spare + 1
  | .agg parts => uptoBulkAll parts + 1
  | .iface _ d => uptoBulk d + 1
  | .map entries => uptoBulkEntries entries + 1
  | .held _ => 1
def uptoBulkAll {H : Type} : List (DataW H) → Nat
  | [] => 0
  | d :: r => uptoBulk d + uptoBulkAll r
def uptoBulkEntries {H : Type} : List (Lit × DataW H) → Nat
  | [] => 0
  | x :: r => uptoBulkEntry x + uptoBulkEntries r
def uptoBulkEntry {H : Type} : Lit × DataW H → Nat
  | (.string bytes, d) => bytes.length + uptoBulk d + 1
  | (_, d) => uptoBulk d + 1
 end
def uptoSmall : (H : Type) → List (DataW H) → Bool := fun _ ds => decide (uptoBulkAll ds ≤ 1048576)
def OpenSpec.upto (s : _root_.Go.ChangeSpec) : _root_.Go.OpenSpec := { _root_.Go.OpenSpec.ofChange s with cond := some uptoSmall }

/-- 'laws.FnHdMatches', WHERE WHAT IT READS IS OF BULK AT MOST 1048576: true; the input reads as it did. -/
def fnHdMatchesUptoRow : OpenClaim := { program := "ythldlpggconmcaadoorr", sum := "df2fa0984e4a6c3657f5b4616f73d06171cc7ef8744fbb53678226c89808ef86", func := "pub-droshky/laws.FnHdMatches", spec := "fnHdMatches", inPlace := ["internal/abi.NoEscape", "internal/bytealg.MakeNoZero"], unfollowed := true, recurses := true, named := ["pub-droshky/pub/cid.Undef", "pub-droshky/pub/multihash.ErrTooShort", "pub-droshky/pub/multihash.ErrVarintBufferShort", "pub-droshky/pub/multihash.ErrVarintTooLong", "pub-droshky/pub/varint.ErrOverflow", "pub-droshky/pub/varint.ErrNotMinimal", "pub-droshky/pub/varint.ErrUnderflow"], apart := false, laid := [("pub-droshky/pub/varint.ErrOverflow", laid_pub_droshky_pub_varint_ErrOverflow), ("pub-droshky/pub/varint.ErrUnderflow", laid_pub_droshky_pub_varint_ErrUnderflow), ("pub-droshky/pub/varint.ErrNotMinimal", laid_pub_droshky_pub_varint_ErrNotMinimal), ("pub-droshky/pub/multihash.ErrTooShort", laid_pub_droshky_pub_multihash_ErrTooShort), ("pub-droshky/pub/multihash.ErrVarintBufferShort", laid_pub_droshky_pub_multihash_ErrVarintBufferShort), ("pub-droshky/pub/multihash.ErrVarintTooLong", laid_pub_droshky_pub_multihash_ErrVarintTooLong), ("pub-droshky/pub/cid.Undef", laid_pub_droshky_pub_cid_Undef)], narrowed := true }
def FnHdMatchesUptoSaid : Prop := fnHdMatchesUptoRow.holds Tryd.pinned (OpenSpec.upto fnHdMatchesSpec)

/-- 'laws.FnIxCodec', WHERE WHAT IT READS IS OF BULK AT MOST 1048576: true; the input reads as it did. -/
def fnIxCodecUptoRow : OpenClaim := { program := "ythldlpggconmcaadoorr", sum := "df2fa0984e4a6c3657f5b4616f73d06171cc7ef8744fbb53678226c89808ef86", func := "pub-droshky/laws.FnIxCodec", spec := "fnIxCodec", unfollowed := true, recurses := true, named := ["io.EOF", "io.ErrUnexpectedEOF", "pub-droshky/pub/varint.ErrOverflow", "pub-droshky/pub/varint.ErrNotMinimal"], apart := false, laid := [("io.EOF", laid_io_EOF), ("io.ErrUnexpectedEOF", laid_io_ErrUnexpectedEOF), ("pub-droshky/pub/varint.ErrOverflow", laid_pub_droshky_pub_varint_ErrOverflow), ("pub-droshky/pub/varint.ErrNotMinimal", laid_pub_droshky_pub_varint_ErrNotMinimal)], narrowed := true }
def FnIxCodecUptoSaid : Prop := fnIxCodecUptoRow.holds Tryd.pinned (OpenSpec.upto fnIxCodecSpec)

/-- 'laws.FnCdBytes', WHERE WHAT IT READS IS OF BULK AT MOST 1048576: true; the input reads as it did. -/
def fnCdBytesUptoRow : OpenClaim := { program := "ythldlpggconmcaadoorr", sum := "df2fa0984e4a6c3657f5b4616f73d06171cc7ef8744fbb53678226c89808ef86", func := "pub-droshky/laws.FnCdBytes", spec := "fnCdBytes", inPlace := ["internal/abi.NoEscape", "internal/bytealg.MakeNoZero"], unfollowed := true, recurses := true, named := ["pub-droshky/pub/cid.Undef", "pub-droshky/pub/multihash.ErrTooShort", "pub-droshky/pub/multihash.ErrVarintBufferShort", "pub-droshky/pub/multihash.ErrVarintTooLong", "pub-droshky/pub/varint.ErrOverflow", "pub-droshky/pub/varint.ErrNotMinimal", "pub-droshky/pub/varint.ErrUnderflow"], apart := false, laid := [("pub-droshky/pub/varint.ErrOverflow", laid_pub_droshky_pub_varint_ErrOverflow), ("pub-droshky/pub/varint.ErrUnderflow", laid_pub_droshky_pub_varint_ErrUnderflow), ("pub-droshky/pub/varint.ErrNotMinimal", laid_pub_droshky_pub_varint_ErrNotMinimal), ("pub-droshky/pub/multihash.ErrTooShort", laid_pub_droshky_pub_multihash_ErrTooShort), ("pub-droshky/pub/multihash.ErrVarintBufferShort", laid_pub_droshky_pub_multihash_ErrVarintBufferShort), ("pub-droshky/pub/multihash.ErrVarintTooLong", laid_pub_droshky_pub_multihash_ErrVarintTooLong), ("pub-droshky/pub/cid.Undef", laid_pub_droshky_pub_cid_Undef)], narrowed := true }
def FnCdBytesUptoSaid : Prop := fnCdBytesUptoRow.holds Tryd.pinned (OpenSpec.upto fnCdBytesSpec)

/-- 'laws.FnCdSame', WHERE WHAT IT READS IS OF BULK AT MOST 1048576: true; the input reads as it did. -/
def fnCdSameUptoRow : OpenClaim := { program := "ythldlpggconmcaadoorr", sum := "df2fa0984e4a6c3657f5b4616f73d06171cc7ef8744fbb53678226c89808ef86", func := "pub-droshky/laws.FnCdSame", spec := "fnCdSame", inPlace := ["internal/abi.NoEscape", "internal/bytealg.MakeNoZero"], unfollowed := true, recurses := true, named := ["pub-droshky/pub/cid.Undef", "pub-droshky/pub/multihash.ErrTooShort", "pub-droshky/pub/multihash.ErrVarintBufferShort", "pub-droshky/pub/multihash.ErrVarintTooLong", "pub-droshky/pub/varint.ErrOverflow", "pub-droshky/pub/varint.ErrNotMinimal", "pub-droshky/pub/varint.ErrUnderflow"], apart := false, laid := [("pub-droshky/pub/varint.ErrOverflow", laid_pub_droshky_pub_varint_ErrOverflow), ("pub-droshky/pub/varint.ErrUnderflow", laid_pub_droshky_pub_varint_ErrUnderflow), ("pub-droshky/pub/varint.ErrNotMinimal", laid_pub_droshky_pub_varint_ErrNotMinimal), ("pub-droshky/pub/multihash.ErrTooShort", laid_pub_droshky_pub_multihash_ErrTooShort), ("pub-droshky/pub/multihash.ErrVarintBufferShort", laid_pub_droshky_pub_multihash_ErrVarintBufferShort), ("pub-droshky/pub/multihash.ErrVarintTooLong", laid_pub_droshky_pub_multihash_ErrVarintTooLong), ("pub-droshky/pub/cid.Undef", laid_pub_droshky_pub_cid_Undef)], narrowed := true }
def FnCdSameUptoSaid : Prop := fnCdSameUptoRow.holds Tryd.pinned (OpenSpec.upto fnCdSameSpec)

/-- 'laws.FnCdByte', WHERE WHAT IT READS IS OF BULK AT MOST 1048576: true; the input reads as it did. -/
def fnCdByteUptoRow : OpenClaim := { program := "ythldlpggconmcaadoorr", sum := "df2fa0984e4a6c3657f5b4616f73d06171cc7ef8744fbb53678226c89808ef86", func := "pub-droshky/laws.FnCdByte", spec := "fnCdByte", inPlace := ["internal/abi.NoEscape", "internal/bytealg.MakeNoZero"], unfollowed := true, recurses := true, named := ["pub-droshky/pub/cid.Undef", "pub-droshky/pub/multihash.ErrTooShort", "pub-droshky/pub/multihash.ErrVarintBufferShort", "pub-droshky/pub/multihash.ErrVarintTooLong", "pub-droshky/pub/varint.ErrOverflow", "pub-droshky/pub/varint.ErrNotMinimal", "pub-droshky/pub/varint.ErrUnderflow"], apart := false, laid := [("pub-droshky/pub/varint.ErrOverflow", laid_pub_droshky_pub_varint_ErrOverflow), ("pub-droshky/pub/varint.ErrUnderflow", laid_pub_droshky_pub_varint_ErrUnderflow), ("pub-droshky/pub/varint.ErrNotMinimal", laid_pub_droshky_pub_varint_ErrNotMinimal), ("pub-droshky/pub/multihash.ErrTooShort", laid_pub_droshky_pub_multihash_ErrTooShort), ("pub-droshky/pub/multihash.ErrVarintBufferShort", laid_pub_droshky_pub_multihash_ErrVarintBufferShort), ("pub-droshky/pub/multihash.ErrVarintTooLong", laid_pub_droshky_pub_multihash_ErrVarintTooLong), ("pub-droshky/pub/cid.Undef", laid_pub_droshky_pub_cid_Undef)], narrowed := true }
def FnCdByteUptoSaid : Prop := fnCdByteUptoRow.holds Tryd.pinned (OpenSpec.upto fnCdByteSpec)

/-- 'laws.FnCdCast', WHERE WHAT IT READS IS OF BULK AT MOST 1048576: true; the input reads as it did. -/
def fnCdCastUptoRow : OpenClaim := { program := "ythldlpggconmcaadoorr", sum := "df2fa0984e4a6c3657f5b4616f73d06171cc7ef8744fbb53678226c89808ef86", func := "pub-droshky/laws.FnCdCast", spec := "fnCdCast", inPlace := ["internal/abi.NoEscape", "internal/bytealg.MakeNoZero"], unfollowed := true, recurses := true, named := ["pub-droshky/pub/cid.Undef", "pub-droshky/pub/multihash.ErrTooShort", "pub-droshky/pub/multihash.ErrVarintBufferShort", "pub-droshky/pub/multihash.ErrVarintTooLong", "pub-droshky/pub/varint.ErrOverflow", "pub-droshky/pub/varint.ErrNotMinimal", "pub-droshky/pub/varint.ErrUnderflow"], apart := false, laid := [("pub-droshky/pub/varint.ErrOverflow", laid_pub_droshky_pub_varint_ErrOverflow), ("pub-droshky/pub/varint.ErrUnderflow", laid_pub_droshky_pub_varint_ErrUnderflow), ("pub-droshky/pub/varint.ErrNotMinimal", laid_pub_droshky_pub_varint_ErrNotMinimal), ("pub-droshky/pub/multihash.ErrTooShort", laid_pub_droshky_pub_multihash_ErrTooShort), ("pub-droshky/pub/multihash.ErrVarintBufferShort", laid_pub_droshky_pub_multihash_ErrVarintBufferShort), ("pub-droshky/pub/multihash.ErrVarintTooLong", laid_pub_droshky_pub_multihash_ErrVarintTooLong), ("pub-droshky/pub/cid.Undef", laid_pub_droshky_pub_cid_Undef)], narrowed := true }
def FnCdCastUptoSaid : Prop := fnCdCastUptoRow.holds Tryd.pinned (OpenSpec.upto fnCdCastSpec)

/-- 'laws.FnIiHas', WHERE WHAT IT READS IS OF BULK AT MOST 1048576: true; the input reads as it did. -/
def fnIiHasUptoRow : OpenClaim := { program := "ythldlpggconmcaadoorr", sum := "df2fa0984e4a6c3657f5b4616f73d06171cc7ef8744fbb53678226c89808ef86", func := "pub-droshky/laws.FnIiHas", spec := "fnIiHas", inPlace := ["internal/abi.NoEscape", "internal/bytealg.MakeNoZero"], unfollowed := true, recurses := true, named := ["pub-droshky/pub/cid.Undef", "pub-droshky/pub/multihash.ErrTooShort", "pub-droshky/pub/multihash.ErrVarintBufferShort", "pub-droshky/pub/multihash.ErrVarintTooLong", "pub-droshky/pub/varint.ErrOverflow", "pub-droshky/pub/varint.ErrNotMinimal", "pub-droshky/pub/varint.ErrUnderflow", "pub-droshky/pub/llrb.pinf", "pub-droshky/pub/llrb.ninf"], apart := false, laid := [("pub-droshky/pub/llrb.ninf", laid_pub_droshky_pub_llrb_ninf), ("pub-droshky/pub/llrb.pinf", laid_pub_droshky_pub_llrb_pinf), ("pub-droshky/pub/varint.ErrOverflow", laid_pub_droshky_pub_varint_ErrOverflow), ("pub-droshky/pub/varint.ErrUnderflow", laid_pub_droshky_pub_varint_ErrUnderflow), ("pub-droshky/pub/varint.ErrNotMinimal", laid_pub_droshky_pub_varint_ErrNotMinimal), ("pub-droshky/pub/multihash.ErrTooShort", laid_pub_droshky_pub_multihash_ErrTooShort), ("pub-droshky/pub/multihash.ErrVarintBufferShort", laid_pub_droshky_pub_multihash_ErrVarintBufferShort), ("pub-droshky/pub/multihash.ErrVarintTooLong", laid_pub_droshky_pub_multihash_ErrVarintTooLong), ("pub-droshky/pub/cid.Undef", laid_pub_droshky_pub_cid_Undef)], narrowed := true }
def FnIiHasUptoSaid : Prop := fnIiHasUptoRow.holds Tryd.pinned (OpenSpec.upto fnIiHasSpec)

/-- 'laws.FnCdPrefix', WHERE WHAT IT READS IS OF BULK AT MOST 1048576: true; the input reads as it did. -/
def fnCdPrefixUptoRow : OpenClaim := { program := "ythldlpggconmcaadoorr", sum := "df2fa0984e4a6c3657f5b4616f73d06171cc7ef8744fbb53678226c89808ef86", func := "pub-droshky/laws.FnCdPrefix", spec := "fnCdPrefix", inPlace := ["internal/abi.NoEscape", "internal/bytealg.MakeNoZero"], unfollowed := true, recurses := true, named := ["pub-droshky/pub/cid.Undef", "pub-droshky/pub/multihash.ErrTooShort", "pub-droshky/pub/multihash.ErrVarintBufferShort", "pub-droshky/pub/multihash.ErrVarintTooLong", "pub-droshky/pub/varint.ErrOverflow", "pub-droshky/pub/varint.ErrNotMinimal", "pub-droshky/pub/varint.ErrUnderflow", "io.EOF", "io.ErrUnexpectedEOF"], apart := false, laid := [("io.EOF", laid_io_EOF), ("io.ErrUnexpectedEOF", laid_io_ErrUnexpectedEOF), ("pub-droshky/pub/varint.ErrOverflow", laid_pub_droshky_pub_varint_ErrOverflow), ("pub-droshky/pub/varint.ErrUnderflow", laid_pub_droshky_pub_varint_ErrUnderflow), ("pub-droshky/pub/varint.ErrNotMinimal", laid_pub_droshky_pub_varint_ErrNotMinimal), ("pub-droshky/pub/multihash.ErrTooShort", laid_pub_droshky_pub_multihash_ErrTooShort), ("pub-droshky/pub/multihash.ErrVarintBufferShort", laid_pub_droshky_pub_multihash_ErrVarintBufferShort), ("pub-droshky/pub/multihash.ErrVarintTooLong", laid_pub_droshky_pub_multihash_ErrVarintTooLong), ("pub-droshky/pub/cid.Undef", laid_pub_droshky_pub_cid_Undef)], narrowed := true }
def FnCdPrefixUptoSaid : Prop := fnCdPrefixUptoRow.holds Tryd.pinned (OpenSpec.upto fnCdPrefixSpec)

/-- 'laws.FnLdZero', WHERE WHAT IT READS IS OF BULK AT MOST 1048576: true; the input reads as it did. -/
def fnLdZeroUptoRow : OpenClaim := { program := "ythldlpggconmcaadoorr", sum := "df2fa0984e4a6c3657f5b4616f73d06171cc7ef8744fbb53678226c89808ef86", func := "pub-droshky/laws.FnLdZero", spec := "fnLdZero", unfollowed := true, recurses := true, named := ["io.EOF", "io.ErrUnexpectedEOF", "pub-droshky/pub/util.ErrSectionTooLarge", "pub-droshky/pub/varint.ErrOverflow", "pub-droshky/pub/varint.ErrNotMinimal", "io.ErrShortBuffer"], apart := false, laid := [("io.ErrShortBuffer", laid_io_ErrShortBuffer), ("io.EOF", laid_io_EOF), ("io.ErrUnexpectedEOF", laid_io_ErrUnexpectedEOF), ("pub-droshky/pub/varint.ErrOverflow", laid_pub_droshky_pub_varint_ErrOverflow), ("pub-droshky/pub/varint.ErrNotMinimal", laid_pub_droshky_pub_varint_ErrNotMinimal), ("pub-droshky/pub/util.ErrSectionTooLarge", laid_pub_droshky_pub_util_ErrSectionTooLarge)], narrowed := true }
def FnLdZeroUptoSaid : Prop := fnLdZeroUptoRow.holds Tryd.pinned (OpenSpec.upto fnLdZeroSpec)

/-- 'laws.FnLdWrite', WHERE WHAT IT READS IS OF BULK AT MOST 1048576: true; the input reads as it did. -/
def fnLdWriteUptoRow : OpenClaim := { program := "ythldlpggconmcaadoorr", sum := "df2fa0984e4a6c3657f5b4616f73d06171cc7ef8744fbb53678226c89808ef86", func := "pub-droshky/laws.FnLdWrite", spec := "fnLdWrite", unfollowed := true, recurses := true, named := ["io.EOF", "io.ErrUnexpectedEOF", "pub-droshky/pub/util.ErrSectionTooLarge", "pub-droshky/pub/varint.ErrOverflow", "pub-droshky/pub/varint.ErrNotMinimal", "io.ErrShortBuffer"], apart := false, laid := [("io.ErrShortBuffer", laid_io_ErrShortBuffer), ("io.EOF", laid_io_EOF), ("io.ErrUnexpectedEOF", laid_io_ErrUnexpectedEOF), ("pub-droshky/pub/varint.ErrOverflow", laid_pub_droshky_pub_varint_ErrOverflow), ("pub-droshky/pub/varint.ErrNotMinimal", laid_pub_droshky_pub_varint_ErrNotMinimal), ("pub-droshky/pub/util.ErrSectionTooLarge", laid_pub_droshky_pub_util_ErrSectionTooLarge)], narrowed := true }
def FnLdWriteUptoSaid : Prop := fnLdWriteUptoRow.holds Tryd.pinned (OpenSpec.upto fnLdWriteSpec)

end Rows
end Go.Proofs.YthldlpggconmcaaDoorR
