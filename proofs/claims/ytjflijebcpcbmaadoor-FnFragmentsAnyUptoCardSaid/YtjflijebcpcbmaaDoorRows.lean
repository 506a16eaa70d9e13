/-
  NARROWER THAN 'FOR EVERY INPUT', by the rows' own cells (each row's printed sentence says how): FnCutAnew: laid · FnFragmentsAny: laid · FnManyMixed: laid · FnPiecesEpoch: laid · FnPopsBetween: laid.
  DERIVED. THE GIVEN ROWS OF THIS SEAT. 5 by the template 'for every input the law returns true; each argument reads behind the call as it read before'; 0 by the template 'total and deterministic' (their statements: YtjflijebcpcbmaaDoorTotals.lean).
  GIVEN WITH THE SEED: the statements are not yours to turn. If you find one false, say at which input.
  Laid BY PROGRAM, IN A SANDBOX (cutbox-rows.mjs): the forced cells as the released guide's own fill.sh prints them over the translation fdb7af91590930ec… (all of the seat's roots in one cut). By AI agents, Wed Nov 11 2026. No macro, syntax, notation, axiom, sorry.
-/
import Derived.Test.YtjflijebcpcbmaaDoorChecked
import GoSem.Claim
import GoSem.ClaimJoined
import GoSem.ClaimMapViews
import Derived.JoinedTies
import Derived.KernelRfl
namespace Go.Proofs.YtjflijebcpcbmaaDoor
/- THE CELL 'sum', in the pinned program and in every row, IS THE sha256 OF THE DUMP (.gsa) THAT YtjflijebcpcbmaaDoorProg.lean LOADS. Nothing in Lean hashes anything: it is a label: what it is worth is what the hold of that sum in a sandbox is worth. -/
noncomputable def Tryd.pinned : Pinned := { name := "ytjflijebcpcbmaadoor", sum := "fdb7af91590930ecd8070ca99e39b3cd5185635bb08c79075e7dac5fcd92513a", checked := Tryd.checked }
namespace Rows
def none {H : Type} : Left H := { results := [], args := [] }

/- WHAT THE LISTED PACKAGE-LEVEL VARIABLES READ AS WHEN THE CALL BEGINS. Each datum BY PROGRAM (the guide's laid-datum.mjs) off the statement by which the dump's own 'gosem.cut.vars' lays the variable. In a bare row this is a premise. The card (YtjflijebcpcbmaaDoorCards.lean) ties it to the program's text. -/
def laid_pub_tandemry_pub_dtls_pkg_protocol_Version1_0 {H : Type} : DataW H := .agg [.lit (.int .u8 254), .lit (.int .u8 255)]
def laid_pub_tandemry_pub_dtls_pkg_protocol_Version1_2 {H : Type} : DataW H := .agg [.lit (.int .u8 254), .lit (.int .u8 253)]
def laid_pub_tandemry_pub_dtls_pkg_protocol_handshake_errBufferTooSmall {H : Type} : DataW H := .iface "*errors.errorString" (.ptr (.agg [.lit (.string [98, 117, 102, 102, 101, 114, 32, 105, 115, 32, 116, 111, 111, 32, 115, 109, 97, 108, 108])]))
def laid_pub_tandemry_pub_dtls_pkg_protocol_recordlayer_errBufferTooSmall {H : Type} : DataW H := .iface "*errors.errorString" (.ptr (.agg [.lit (.string [98, 117, 102, 102, 101, 114, 32, 105, 115, 32, 116, 111, 111, 32, 115, 109, 97, 108, 108])]))
def laid_pub_tandemry_pub_dtls_pkg_protocol_recordlayer_errUnsupportedProtocolVersion {H : Type} : DataW H := .iface "*errors.errorString" (.ptr (.agg [.lit (.string [117, 110, 115, 117, 112, 112, 111, 114, 116, 101, 100, 32, 112, 114, 111, 116, 111, 99, 111, 108, 32, 118, 101, 114, 115, 105, 111, 110])]))
def laid_pub_tandemry_pub_dtls_errBufferTooSmall {H : Type} : DataW H := .iface "*errors.errorString" (.ptr (.agg [.lit (.string [98, 117, 102, 102, 101, 114, 32, 105, 115, 32, 116, 111, 111, 32, 115, 109, 97, 108, 108])]))
def laid_pub_tandemry_pub_dtls_errFragmentBufferOverflow {H : Type} : DataW H := .iface "*errors.errorString" (.ptr (.agg [.lit (.string [102, 114, 97, 103, 109, 101, 110, 116, 32, 98, 117, 102, 102, 101, 114, 32, 111, 118, 101, 114, 102, 108, 111, 119])]))

/-- 'laws.FnCutAnew': WHATEVER THE INPUT: true; the input reads as it did. -/
def fnCutAnewSpec : ChangeSpec := { name := "fnCutAnew", fn := fun _ => fun
  | [d1, d2, d3, d4] => { results := [.lit (.bool true)], args := [d1, d2, d3, d4] }
  | _ => none }
def fnCutAnewRow : OpenClaim := { program := "ytjflijebcpcbmaadoor", sum := "fdb7af91590930ecd8070ca99e39b3cd5185635bb08c79075e7dac5fcd92513a", func := "pub-tandemry/laws.FnCutAnew", spec := "fnCutAnew", inPlace := ["slices.overlaps[pub-tandemry/pub/dtls.fragmentRange]"], unfollowed := true, recurses := true, named := ["pub-tandemry/pub/dtls.errFragmentBufferOverflow", "pub-tandemry/pub/dtls.errBufferTooSmall", "pub-tandemry/pub/dtls/pkg/protocol/recordlayer.errBufferTooSmall", "encoding/binary.BigEndian", "pub-tandemry/pub/dtls/pkg/protocol.Version1_0", "pub-tandemry/pub/dtls/pkg/protocol.Version1_2", "pub-tandemry/pub/dtls/pkg/protocol/recordlayer.errUnsupportedProtocolVersion", "pub-tandemry/pub/dtls/pkg/protocol/handshake.errBufferTooSmall"], apart := false, laid := [("pub-tandemry/pub/dtls/pkg/protocol.Version1_0", laid_pub_tandemry_pub_dtls_pkg_protocol_Version1_0), ("pub-tandemry/pub/dtls/pkg/protocol.Version1_2", laid_pub_tandemry_pub_dtls_pkg_protocol_Version1_2), ("pub-tandemry/pub/dtls/pkg/protocol/handshake.errBufferTooSmall", laid_pub_tandemry_pub_dtls_pkg_protocol_handshake_errBufferTooSmall), ("pub-tandemry/pub/dtls/pkg/protocol/recordlayer.errBufferTooSmall", laid_pub_tandemry_pub_dtls_pkg_protocol_recordlayer_errBufferTooSmall), ("pub-tandemry/pub/dtls/pkg/protocol/recordlayer.errUnsupportedProtocolVersion", laid_pub_tandemry_pub_dtls_pkg_protocol_recordlayer_errUnsupportedProtocolVersion), ("pub-tandemry/pub/dtls.errBufferTooSmall", laid_pub_tandemry_pub_dtls_errBufferTooSmall), ("pub-tandemry/pub/dtls.errFragmentBufferOverflow", laid_pub_tandemry_pub_dtls_errFragmentBufferOverflow)] }
def FnCutAnewSaid : Prop := fnCutAnewRow.holds Tryd.pinned (OpenSpec.ofChange fnCutAnewSpec)

/-- ITS FALSE NEIGHBOUR: 'it returns false'. Refute it at one input. -/
def fnCutAnewWrong : ChangeSpec := { name := "fnCutAnew", fn := fun _ => fun
  | [d1, d2, d3, d4] => { results := [.lit (.bool false)], args := [d1, d2, d3, d4] }
  | _ => none }
def FnCutAnewWrongFalsely : Prop := fnCutAnewRow.holds Tryd.pinned (OpenSpec.ofChange fnCutAnewWrong)

/-- 'laws.FnFragmentsAny': WHATEVER THE INPUT: true; the input reads as it did. -/
def fnFragmentsAnySpec : ChangeSpec := { name := "fnFragmentsAny", fn := fun _ => fun
  | [d] => { results := [.lit (.bool true)], args := [d] }
  | _ => none }
def fnFragmentsAnyRow : OpenClaim := { program := "ytjflijebcpcbmaadoor", sum := "fdb7af91590930ecd8070ca99e39b3cd5185635bb08c79075e7dac5fcd92513a", func := "pub-tandemry/laws.FnFragmentsAny", spec := "fnFragmentsAny", inPlace := ["slices.overlaps[pub-tandemry/pub/dtls.fragmentRange]"], unfollowed := true, recurses := true, named := ["pub-tandemry/pub/dtls.errFragmentBufferOverflow", "pub-tandemry/pub/dtls.errBufferTooSmall", "pub-tandemry/pub/dtls/pkg/protocol/recordlayer.errBufferTooSmall", "encoding/binary.BigEndian", "pub-tandemry/pub/dtls/pkg/protocol.Version1_0", "pub-tandemry/pub/dtls/pkg/protocol.Version1_2", "pub-tandemry/pub/dtls/pkg/protocol/recordlayer.errUnsupportedProtocolVersion", "pub-tandemry/pub/dtls/pkg/protocol/handshake.errBufferTooSmall"], apart := false, laid := [("pub-tandemry/pub/dtls/pkg/protocol.Version1_0", laid_pub_tandemry_pub_dtls_pkg_protocol_Version1_0), ("pub-tandemry/pub/dtls/pkg/protocol.Version1_2", laid_pub_tandemry_pub_dtls_pkg_protocol_Version1_2), ("pub-tandemry/pub/dtls/pkg/protocol/handshake.errBufferTooSmall", laid_pub_tandemry_pub_dtls_pkg_protocol_handshake_errBufferTooSmall), ("pub-tandemry/pub/dtls/pkg/protocol/recordlayer.errBufferTooSmall", laid_pub_tandemry_pub_dtls_pkg_protocol_recordlayer_errBufferTooSmall), ("pub-tandemry/pub/dtls/pkg/protocol/recordlayer.errUnsupportedProtocolVersion", laid_pub_tandemry_pub_dtls_pkg_protocol_recordlayer_errUnsupportedProtocolVersion), ("pub-tandemry/pub/dtls.errBufferTooSmall", laid_pub_tandemry_pub_dtls_errBufferTooSmall), ("pub-tandemry/pub/dtls.errFragmentBufferOverflow", laid_pub_tandemry_pub_dtls_errFragmentBufferOverflow)] }
def FnFragmentsAnySaid : Prop := fnFragmentsAnyRow.holds Tryd.pinned (OpenSpec.ofChange fnFragmentsAnySpec)

/-- ITS FALSE NEIGHBOUR: 'it returns false'. Refute it at one input. -/
def fnFragmentsAnyWrong : ChangeSpec := { name := "fnFragmentsAny", fn := fun _ => fun
  | [d] => { results := [.lit (.bool false)], args := [d] }
  | _ => none }
def FnFragmentsAnyWrongFalsely : Prop := fnFragmentsAnyRow.holds Tryd.pinned (OpenSpec.ofChange fnFragmentsAnyWrong)

/-- 'laws.FnManyMixed': WHATEVER THE INPUT: true; the input reads as it did. -/
def fnManyMixedSpec : ChangeSpec := { name := "fnManyMixed", fn := fun _ => fun
  | [d1, d2, d3] => { results := [.lit (.bool true)], args := [d1, d2, d3] }
  | _ => none }
def fnManyMixedRow : OpenClaim := { program := "ytjflijebcpcbmaadoor", sum := "fdb7af91590930ecd8070ca99e39b3cd5185635bb08c79075e7dac5fcd92513a", func := "pub-tandemry/laws.FnManyMixed", spec := "fnManyMixed", inPlace := ["slices.overlaps[pub-tandemry/pub/dtls.fragmentRange]"], unfollowed := true, recurses := true, named := ["pub-tandemry/pub/dtls.errFragmentBufferOverflow", "pub-tandemry/pub/dtls.errBufferTooSmall", "pub-tandemry/pub/dtls/pkg/protocol/recordlayer.errBufferTooSmall", "encoding/binary.BigEndian", "pub-tandemry/pub/dtls/pkg/protocol.Version1_0", "pub-tandemry/pub/dtls/pkg/protocol.Version1_2", "pub-tandemry/pub/dtls/pkg/protocol/recordlayer.errUnsupportedProtocolVersion", "pub-tandemry/pub/dtls/pkg/protocol/handshake.errBufferTooSmall"], apart := false, laid := [("pub-tandemry/pub/dtls/pkg/protocol.Version1_0", laid_pub_tandemry_pub_dtls_pkg_protocol_Version1_0), ("pub-tandemry/pub/dtls/pkg/protocol.Version1_2", laid_pub_tandemry_pub_dtls_pkg_protocol_Version1_2), ("pub-tandemry/pub/dtls/pkg/protocol/handshake.errBufferTooSmall", laid_pub_tandemry_pub_dtls_pkg_protocol_handshake_errBufferTooSmall), ("pub-tandemry/pub/dtls/pkg/protocol/recordlayer.errBufferTooSmall", laid_pub_tandemry_pub_dtls_pkg_protocol_recordlayer_errBufferTooSmall), ("pub-tandemry/pub/dtls/pkg/protocol/recordlayer.errUnsupportedProtocolVersion", laid_pub_tandemry_pub_dtls_pkg_protocol_recordlayer_errUnsupportedProtocolVersion), ("pub-tandemry/pub/dtls.errBufferTooSmall", laid_pub_tandemry_pub_dtls_errBufferTooSmall), ("pub-tandemry/pub/dtls.errFragmentBufferOverflow", laid_pub_tandemry_pub_dtls_errFragmentBufferOverflow)] }
def FnManyMixedSaid : Prop := fnManyMixedRow.holds Tryd.pinned (OpenSpec.ofChange fnManyMixedSpec)

/-- ITS FALSE NEIGHBOUR: 'it returns false'. Refute it at one input. -/
def fnManyMixedWrong : ChangeSpec := { name := "fnManyMixed", fn := fun _ => fun
  | [d1, d2, d3] => { results := [.lit (.bool false)], args := [d1, d2, d3] }
  | _ => none }
def FnManyMixedWrongFalsely : Prop := fnManyMixedRow.holds Tryd.pinned (OpenSpec.ofChange fnManyMixedWrong)

/-- 'laws.FnPiecesEpoch': WHATEVER THE INPUT: true; the input reads as it did. -/
def fnPiecesEpochSpec : ChangeSpec := { name := "fnPiecesEpoch", fn := fun _ => fun
  | [d1, d2, d3, d4] => { results := [.lit (.bool true)], args := [d1, d2, d3, d4] }
  | _ => none }
def fnPiecesEpochRow : OpenClaim := { program := "ytjflijebcpcbmaadoor", sum := "fdb7af91590930ecd8070ca99e39b3cd5185635bb08c79075e7dac5fcd92513a", func := "pub-tandemry/laws.FnPiecesEpoch", spec := "fnPiecesEpoch", inPlace := ["slices.overlaps[pub-tandemry/pub/dtls.fragmentRange]"], unfollowed := true, recurses := true, named := ["pub-tandemry/pub/dtls.errFragmentBufferOverflow", "pub-tandemry/pub/dtls.errBufferTooSmall", "pub-tandemry/pub/dtls/pkg/protocol/recordlayer.errBufferTooSmall", "encoding/binary.BigEndian", "pub-tandemry/pub/dtls/pkg/protocol.Version1_0", "pub-tandemry/pub/dtls/pkg/protocol.Version1_2", "pub-tandemry/pub/dtls/pkg/protocol/recordlayer.errUnsupportedProtocolVersion", "pub-tandemry/pub/dtls/pkg/protocol/handshake.errBufferTooSmall"], apart := false, laid := [("pub-tandemry/pub/dtls/pkg/protocol.Version1_0", laid_pub_tandemry_pub_dtls_pkg_protocol_Version1_0), ("pub-tandemry/pub/dtls/pkg/protocol.Version1_2", laid_pub_tandemry_pub_dtls_pkg_protocol_Version1_2), ("pub-tandemry/pub/dtls/pkg/protocol/handshake.errBufferTooSmall", laid_pub_tandemry_pub_dtls_pkg_protocol_handshake_errBufferTooSmall), ("pub-tandemry/pub/dtls/pkg/protocol/recordlayer.errBufferTooSmall", laid_pub_tandemry_pub_dtls_pkg_protocol_recordlayer_errBufferTooSmall), ("pub-tandemry/pub/dtls/pkg/protocol/recordlayer.errUnsupportedProtocolVersion", laid_pub_tandemry_pub_dtls_pkg_protocol_recordlayer_errUnsupportedProtocolVersion), ("pub-tandemry/pub/dtls.errBufferTooSmall", laid_pub_tandemry_pub_dtls_errBufferTooSmall), ("pub-tandemry/pub/dtls.errFragmentBufferOverflow", laid_pub_tandemry_pub_dtls_errFragmentBufferOverflow)] }
def FnPiecesEpochSaid : Prop := fnPiecesEpochRow.holds Tryd.pinned (OpenSpec.ofChange fnPiecesEpochSpec)

/-- ITS FALSE NEIGHBOUR: 'it returns false'. Refute it at one input. -/
def fnPiecesEpochWrong : ChangeSpec := { name := "fnPiecesEpoch", fn := fun _ => fun
  | [d1, d2, d3, d4] => { results := [.lit (.bool false)], args := [d1, d2, d3, d4] }
  | _ => none }
def FnPiecesEpochWrongFalsely : Prop := fnPiecesEpochRow.holds Tryd.pinned (OpenSpec.ofChange fnPiecesEpochWrong)

/-- 'laws.FnPopsBetween': WHATEVER THE INPUT: true; the input reads as it did. -/
def fnPopsBetweenSpec : ChangeSpec := { name := "fnPopsBetween", fn := fun _ => fun
  | [d1, d2] => { results := [.lit (.bool true)], args := [d1, d2] }
  | _ => none }
def fnPopsBetweenRow : OpenClaim := { program := "ytjflijebcpcbmaadoor", sum := "fdb7af91590930ecd8070ca99e39b3cd5185635bb08c79075e7dac5fcd92513a", func := "pub-tandemry/laws.FnPopsBetween", spec := "fnPopsBetween", inPlace := ["slices.overlaps[pub-tandemry/pub/dtls.fragmentRange]"], unfollowed := true, recurses := true, named := ["pub-tandemry/pub/dtls.errFragmentBufferOverflow", "pub-tandemry/pub/dtls.errBufferTooSmall", "pub-tandemry/pub/dtls/pkg/protocol/recordlayer.errBufferTooSmall", "encoding/binary.BigEndian", "pub-tandemry/pub/dtls/pkg/protocol.Version1_0", "pub-tandemry/pub/dtls/pkg/protocol.Version1_2", "pub-tandemry/pub/dtls/pkg/protocol/recordlayer.errUnsupportedProtocolVersion", "pub-tandemry/pub/dtls/pkg/protocol/handshake.errBufferTooSmall"], apart := false, laid := [("pub-tandemry/pub/dtls/pkg/protocol.Version1_0", laid_pub_tandemry_pub_dtls_pkg_protocol_Version1_0), ("pub-tandemry/pub/dtls/pkg/protocol.Version1_2", laid_pub_tandemry_pub_dtls_pkg_protocol_Version1_2), ("pub-tandemry/pub/dtls/pkg/protocol/handshake.errBufferTooSmall", laid_pub_tandemry_pub_dtls_pkg_protocol_handshake_errBufferTooSmall), ("pub-tandemry/pub/dtls/pkg/protocol/recordlayer.errBufferTooSmall", laid_pub_tandemry_pub_dtls_pkg_protocol_recordlayer_errBufferTooSmall), ("pub-tandemry/pub/dtls/pkg/protocol/recordlayer.errUnsupportedProtocolVersion", laid_pub_tandemry_pub_dtls_pkg_protocol_recordlayer_errUnsupportedProtocolVersion), ("pub-tandemry/pub/dtls.errBufferTooSmall", laid_pub_tandemry_pub_dtls_errBufferTooSmall), ("pub-tandemry/pub/dtls.errFragmentBufferOverflow", laid_pub_tandemry_pub_dtls_errFragmentBufferOverflow)] }
def FnPopsBetweenSaid : Prop := fnPopsBetweenRow.holds Tryd.pinned (OpenSpec.ofChange fnPopsBetweenSpec)

/-- ITS FALSE NEIGHBOUR: 'it returns false'. Refute it at one input. -/
def fnPopsBetweenWrong : ChangeSpec := { name := "fnPopsBetween", fn := fun _ => fun
  | [d1, d2] => { results := [.lit (.bool false)], args := [d1, d2] }
  | _ => none }
def FnPopsBetweenWrongFalsely : Prop := fnPopsBetweenRow.holds Tryd.pinned (OpenSpec.ofChange fnPopsBetweenWrong)

/- THE SECOND FORM. 'bulk': how many values and letters a reading holds, each counted each time it is reached (what is shared counts as often as it is met; a slice's spare places count too). A statement '..UptoSaid' is the law's where the arguments, and the package variables that the reading takes, are together of bulk at most 1048576: NARROWER than '..Said'. Prove '..Said' where nothing that the law and all that it calls make is longer than what came in: it says more and counts as full. Else prove '..UptoSaid'. A law counts once. -/
mutual
def uptoBulk {H : Type} : DataW H → Nat
  | .lit (.string bytes) => bytes.length + 1
  | .lit _ => 1
  | .nil => 1
  | .ptr d => uptoBulk d + 1
  | .slice elems spare => uptoBulkAll elems + uptoBulkAll spare + 1
  | .agg parts => uptoBulkAll parts + 1
  | .iface _ d => uptoBulk d + 1
  | .map entries => uptoBulkEntries entries + 1
  | .held _ => 1
def uptoBulkAll {H : Type} : List (DataW H) → Nat
  | [] => 0
  | d :: r => uptoBulk d + uptoBulkAll r
def uptoBulkEntries {H : Type} : List (Lit × DataW H) → Nat
  | [] => 0
  | x :: r => uptoBulkEntry x + uptoBulkEntries r
def uptoBulkEntry {H : Type} : Lit × DataW H → Nat
  | (.string bytes, d) => bytes.length + uptoBulk d + 1
  | (_, d) => uptoBulk d + 1
 end
def uptoSmall : (H : Type) → List (DataW H) → Bool := fun _ ds => decide (uptoBulkAll ds ≤ 1048576)
def OpenSpec.upto (s : _root_.Go.ChangeSpec) : _root_.Go.OpenSpec := { _root_.Go.OpenSpec.ofChange s with cond := some uptoSmall }

/-- 'laws.FnCutAnew', WHERE WHAT IT READS IS OF BULK AT MOST 1048576: true; the input reads as it did. -/
def fnCutAnewUptoRow : OpenClaim := { program := "ytjflijebcpcbmaadoor", sum := "fdb7af91590930ecd8070ca99e39b3cd5185635bb08c79075e7dac5fcd92513a", func := "pub-tandemry/laws.FnCutAnew", spec := "fnCutAnew", inPlace := ["slices.overlaps[pub-tandemry/pub/dtls.fragmentRange]"], unfollowed := true, recurses := true, named := ["pub-tandemry/pub/dtls.errFragmentBufferOverflow", "pub-tandemry/pub/dtls.errBufferTooSmall", "pub-tandemry/pub/dtls/pkg/protocol/recordlayer.errBufferTooSmall", "encoding/binary.BigEndian", "pub-tandemry/pub/dtls/pkg/protocol.Version1_0", "pub-tandemry/pub/dtls/pkg/protocol.Version1_2", "pub-tandemry/pub/dtls/pkg/protocol/recordlayer.errUnsupportedProtocolVersion", "pub-tandemry/pub/dtls/pkg/protocol/handshake.errBufferTooSmall"], apart := false, laid := [("pub-tandemry/pub/dtls/pkg/protocol.Version1_0", laid_pub_tandemry_pub_dtls_pkg_protocol_Version1_0), ("pub-tandemry/pub/dtls/pkg/protocol.Version1_2", laid_pub_tandemry_pub_dtls_pkg_protocol_Version1_2), ("pub-tandemry/pub/dtls/pkg/protocol/handshake.errBufferTooSmall", laid_pub_tandemry_pub_dtls_pkg_protocol_handshake_errBufferTooSmall), ("pub-tandemry/pub/dtls/pkg/protocol/recordlayer.errBufferTooSmall", laid_pub_tandemry_pub_dtls_pkg_protocol_recordlayer_errBufferTooSmall), ("pub-tandemry/pub/dtls/pkg/protocol/recordlayer.errUnsupportedProtocolVersion", laid_pub_tandemry_pub_dtls_pkg_protocol_recordlayer_errUnsupportedProtocolVersion), ("pub-tandemry/pub/dtls.errBufferTooSmall", laid_pub_tandemry_pub_dtls_errBufferTooSmall), ("pub-tandemry/pub/dtls.errFragmentBufferOverflow", laid_pub_tandemry_pub_dtls_errFragmentBufferOverflow)], narrowed := true }
def FnCutAnewUptoSaid : Prop := fnCutAnewUptoRow.holds Tryd.pinned (OpenSpec.upto fnCutAnewSpec)

/-- 'laws.FnFragmentsAny', WHERE WHAT IT READS IS OF BULK AT MOST 1048576: true; the input reads as it did. -/
def fnFragmentsAnyUptoRow : OpenClaim := { program := "ytjflijebcpcbmaadoor", sum := "fdb7af91590930ecd8070ca99e39b3cd5185635bb08c79075e7dac5fcd92513a", func := "pub-tandemry/laws.FnFragmentsAny", spec := "fnFragmentsAny", inPlace := ["slices.overlaps[pub-tandemry/pub/dtls.fragmentRange]"], unfollowed := true, recurses := true, named := ["pub-tandemry/pub/dtls.errFragmentBufferOverflow", "pub-tandemry/pub/dtls.errBufferTooSmall", "pub-tandemry/pub/dtls/pkg/protocol/recordlayer.errBufferTooSmall", "encoding/binary.BigEndian", "pub-tandemry/pub/dtls/pkg/protocol.Version1_0", "pub-tandemry/pub/dtls/pkg/protocol.Version1_2", "pub-tandemry/pub/dtls/pkg/protocol/recordlayer.errUnsupportedProtocolVersion", "pub-tandemry/pub/dtls/pkg/protocol/handshake.errBufferTooSmall"], apart := false, laid := [("pub-tandemry/pub/dtls/pkg/protocol.Version1_0", laid_pub_tandemry_pub_dtls_pkg_protocol_Version1_0), ("pub-tandemry/pub/dtls/pkg/protocol.Version1_2", laid_pub_tandemry_pub_dtls_pkg_protocol_Version1_2), ("pub-tandemry/pub/dtls/pkg/protocol/handshake.errBufferTooSmall", laid_pub_tandemry_pub_dtls_pkg_protocol_handshake_errBufferTooSmall), ("pub-tandemry/pub/dtls/pkg/protocol/recordlayer.errBufferTooSmall", laid_pub_tandemry_pub_dtls_pkg_protocol_recordlayer_errBufferTooSmall), ("pub-tandemry/pub/dtls/pkg/protocol/recordlayer.errUnsupportedProtocolVersion", laid_pub_tandemry_pub_dtls_pkg_protocol_recordlayer_errUnsupportedProtocolVersion), ("pub-tandemry/pub/dtls.errBufferTooSmall", laid_pub_tandemry_pub_dtls_errBufferTooSmall), ("pub-tandemry/pub/dtls.errFragmentBufferOverflow", laid_pub_tandemry_pub_dtls_errFragmentBufferOverflow)], narrowed := true }
def FnFragmentsAnyUptoSaid : Prop := fnFragmentsAnyUptoRow.holds Tryd.pinned (OpenSpec.upto fnFragmentsAnySpec)

/-- 'laws.FnManyMixed', WHERE WHAT IT READS IS OF BULK AT MOST 1048576: true; the input reads as it did. -/
def fnManyMixedUptoRow : OpenClaim := { program := "ytjflijebcpcbmaadoor", sum := "fdb7af91590930ecd8070ca99e39b3cd5185635bb08c79075e7dac5fcd92513a", func := "pub-tandemry/laws.FnManyMixed", spec := "fnManyMixed", inPlace := ["slices.overlaps[pub-tandemry/pub/dtls.fragmentRange]"], unfollowed := true, recurses := true, named := ["pub-tandemry/pub/dtls.errFragmentBufferOverflow", "pub-tandemry/pub/dtls.errBufferTooSmall", "pub-tandemry/pub/dtls/pkg/protocol/recordlayer.errBufferTooSmall", "encoding/binary.BigEndian", "pub-tandemry/pub/dtls/pkg/protocol.Version1_0", "pub-tandemry/pub/dtls/pkg/protocol.Version1_2", "pub-tandemry/pub/dtls/pkg/protocol/recordlayer.errUnsupportedProtocolVersion", "pub-tandemry/pub/dtls/pkg/protocol/handshake.errBufferTooSmall"], apart := false, laid := [("pub-tandemry/pub/dtls/pkg/protocol.Version1_0", laid_pub_tandemry_pub_dtls_pkg_protocol_Version1_0), ("pub-tandemry/pub/dtls/pkg/protocol.Version1_2", laid_pub_tandemry_pub_dtls_pkg_protocol_Version1_2), ("pub-tandemry/pub/dtls/pkg/protocol/handshake.errBufferTooSmall", laid_pub_tandemry_pub_dtls_pkg_protocol_handshake_errBufferTooSmall), ("pub-tandemry/pub/dtls/pkg/protocol/recordlayer.errBufferTooSmall", laid_pub_tandemry_pub_dtls_pkg_protocol_recordlayer_errBufferTooSmall), ("pub-tandemry/pub/dtls/pkg/protocol/recordlayer.errUnsupportedProtocolVersion", laid_pub_tandemry_pub_dtls_pkg_protocol_recordlayer_errUnsupportedProtocolVersion), ("pub-tandemry/pub/dtls.errBufferTooSmall", laid_pub_tandemry_pub_dtls_errBufferTooSmall), ("pub-tandemry/pub/dtls.errFragmentBufferOverflow", laid_pub_tandemry_pub_dtls_errFragmentBufferOverflow)], narrowed := true }
def FnManyMixedUptoSaid : Prop := fnManyMixedUptoRow.holds Tryd.pinned (OpenSpec.upto fnManyMixedSpec)

/-- 'laws.FnPiecesEpoch', WHERE WHAT IT READS IS OF BULK AT MOST 1048576: true; the input reads as it did. -/
def fnPiecesEpochUptoRow : OpenClaim := { program := "ytjflijebcpcbmaadoor", sum := "fdb7af91590930ecd8070ca99e39b3cd5185635bb08c79075e7dac5fcd92513a", func := "pub-tandemry/laws.FnPiecesEpoch", spec := "fnPiecesEpoch", inPlace := ["slices.overlaps[pub-tandemry/pub/dtls.fragmentRange]"], unfollowed := true, recurses := true, named := ["pub-tandemry/pub/dtls.errFragmentBufferOverflow", "pub-tandemry/pub/dtls.errBufferTooSmall", "pub-tandemry/pub/dtls/pkg/protocol/recordlayer.errBufferTooSmall", "encoding/binary.BigEndian", "pub-tandemry/pub/dtls/pkg/protocol.Version1_0", "pub-tandemry/pub/dtls/pkg/protocol.Version1_2", "pub-tandemry/pub/dtls/pkg/protocol/recordlayer.errUnsupportedProtocolVersion", "pub-tandemry/pub/dtls/pkg/protocol/handshake.errBufferTooSmall"], apart := false, laid := [("pub-tandemry/pub/dtls/pkg/protocol.Version1_0", laid_pub_tandemry_pub_dtls_pkg_protocol_Version1_0), ("pub-tandemry/pub/dtls/pkg/protocol.Version1_2", laid_pub_tandemry_pub_dtls_pkg_protocol_Version1_2), ("pub-tandemry/pub/dtls/pkg/protocol/handshake.errBufferTooSmall", laid_pub_tandemry_pub_dtls_pkg_protocol_handshake_errBufferTooSmall), ("pub-tandemry/pub/dtls/pkg/protocol/recordlayer.errBufferTooSmall", laid_pub_tandemry_pub_dtls_pkg_protocol_recordlayer_errBufferTooSmall), ("pub-tandemry/pub/dtls/pkg/protocol/recordlayer.errUnsupportedProtocolVersion", laid_pub_tandemry_pub_dtls_pkg_protocol_recordlayer_errUnsupportedProtocolVersion), ("pub-tandemry/pub/dtls.errBufferTooSmall", laid_pub_tandemry_pub_dtls_errBufferTooSmall), ("pub-tandemry/pub/dtls.errFragmentBufferOverflow", laid_pub_tandemry_pub_dtls_errFragmentBufferOverflow)], narrowed := true }
def FnPiecesEpochUptoSaid : Prop := fnPiecesEpochUptoRow.holds Tryd.pinned (OpenSpec.upto fnPiecesEpochSpec)

/-- 'laws.FnPopsBetween', WHERE WHAT IT READS IS OF BULK AT MOST 1048576: true; the input reads as it did. -/
def fnPopsBetweenUptoRow : OpenClaim := { program := "ytjflijebcpcbmaadoor", sum := "fdb7af91590930ecd8070ca99e39b3cd5185635bb08c79075e7dac5fcd92513a", func := "pub-tandemry/laws.FnPopsBetween", spec := "fnPopsBetween", inPlace := ["slices.overlaps[pub-tandemry/pub/dtls.fragmentRange]"], unfollowed := true, recurses := true, named := ["pub-tandemry/pub/dtls.errFragmentBufferOverflow", "pub-tandemry/pub/dtls.errBufferTooSmall", "pub-tandemry/pub/dtls/pkg/protocol/recordlayer.errBufferTooSmall", "encoding/binary.BigEndian", "pub-tandemry/pub/dtls/pkg/protocol.Version1_0", "pub-tandemry/pub/dtls/pkg/protocol.Version1_2", "pub-tandemry/pub/dtls/pkg/protocol/recordlayer.errUnsupportedProtocolVersion", "pub-tandemry/pub/dtls/pkg/protocol/handshake.errBufferTooSmall"], apart := false, laid := [("pub-tandemry/pub/dtls/pkg/protocol.Version1_0", laid_pub_tandemry_pub_dtls_pkg_protocol_Version1_0), ("pub-tandemry/pub/dtls/pkg/protocol.Version1_2", laid_pub_tandemry_pub_dtls_pkg_protocol_Version1_2), ("pub-tandemry/pub/dtls/pkg/protocol/handshake.errBufferTooSmall", laid_pub_tandemry_pub_dtls_pkg_protocol_handshake_errBufferTooSmall), ("pub-tandemry/pub/dtls/pkg/protocol/recordlayer.errBufferTooSmall", laid_pub_tandemry_pub_dtls_pkg_protocol_recordlayer_errBufferTooSmall), ("pub-tandemry/pub/dtls/pkg/protocol/recordlayer.errUnsupportedProtocolVersion", laid_pub_tandemry_pub_dtls_pkg_protocol_recordlayer_errUnsupportedProtocolVersion), ("pub-tandemry/pub/dtls.errBufferTooSmall", laid_pub_tandemry_pub_dtls_errBufferTooSmall), ("pub-tandemry/pub/dtls.errFragmentBufferOverflow", laid_pub_tandemry_pub_dtls_errFragmentBufferOverflow)], narrowed := true }
def FnPopsBetweenUptoSaid : Prop := fnPopsBetweenUptoRow.holds Tryd.pinned (OpenSpec.upto fnPopsBetweenSpec)

end Rows
end Go.Proofs.YtjflijebcpcbmaaDoor
