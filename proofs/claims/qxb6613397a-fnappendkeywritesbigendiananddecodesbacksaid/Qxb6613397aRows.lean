/-
  No cell of these rows narrows 'for every input' (looked for: loops, veiled, ifaces, maps, wideKeys, modest, calm, conditions, laid).
  DERIVED. THE GIVEN ROWS OF THIS SEAT. 3 by the template 'for every input the law returns true; each argument reads behind the call as it read before'; 0 by the template 'total and deterministic' (their statements: Qxb6613397aTotals.lean).
  GIVEN WITH THE SEED: the statements are not yours to turn. If you find one false, say at which input.
  Laid BY PROGRAM, IN A SANDBOX (cutbox-rows.mjs): the forced cells as the released guide's own fill.sh prints them over the translation 0cd2ef1f728b0dfd… (all of the seat's roots in one cut). By AI agents, Wed Nov 11 2026. No macro, syntax, notation, axiom, sorry.
-/
import Derived.Test.Qxb6613397aChecked
import GoSem.Claim
import GoSem.ClaimJoined
import GoSem.ClaimMapViews
import Derived.JoinedTies
import Derived.KernelRfl
namespace Go.Proofs.Qxb6613397a
/- THE CELL 'sum', in the pinned program and in every row, IS THE sha256 OF THE DUMP (.gsa) THAT Qxb6613397aProg.lean LOADS. Nothing in Lean hashes anything: it is a label: what it is worth is what the hold of that sum in a sandbox is worth. -/
noncomputable def Try.pinned : Pinned := { name := "qxb6613397a", sum := "0cd2ef1f728b0dfd56538063432005330a914726113372868da2540114943f9f", checked := Try.checked }
namespace Rows
def none {H : Type} : Left H := { results := [], args := [] }

/-- 'zzlaws_root_b1.FnAppendKeyWritesBigEndianAndDecodesBack': WHATEVER THE INPUT: true; the input reads as it did. -/
def fnAppendKeyWritesBigEndianAndDecodesBackSpec : ChangeSpec := { name := "fnAppendKeyWritesBigEndianAndDecodesBack", fn := fun _ => fun
  | [d1, d2, d3] => { results := [.lit (.bool true)], args := [d1, d2, d3] }
  | _ => none }
def fnAppendKeyWritesBigEndianAndDecodesBackRow : OpenClaim := { program := "qxb6613397a", sum := "0cd2ef1f728b0dfd56538063432005330a914726113372868da2540114943f9f", func := "example.com/zhaomu/zhaomu/zzlaws_root_b1.FnAppendKeyWritesBigEndianAndDecodesBack", spec := "fnAppendKeyWritesBigEndianAndDecodesBack", named := ["encoding/binary.BigEndian"], apart := false }
def FnAppendKeyWritesBigEndianAndDecodesBackSaid : Prop := fnAppendKeyWritesBigEndianAndDecodesBackRow.holds Try.pinned (OpenSpec.ofChange fnAppendKeyWritesBigEndianAndDecodesBackSpec)

/-- ITS FALSE NEIGHBOUR: 'it returns false'. Refute it at one input. -/
def fnAppendKeyWritesBigEndianAndDecodesBackWrong : ChangeSpec := { name := "fnAppendKeyWritesBigEndianAndDecodesBack", fn := fun _ => fun
  | [d1, d2, d3] => { results := [.lit (.bool false)], args := [d1, d2, d3] }
  | _ => none }
def FnAppendKeyWritesBigEndianAndDecodesBackWrongFalsely : Prop := fnAppendKeyWritesBigEndianAndDecodesBackRow.holds Try.pinned (OpenSpec.ofChange fnAppendKeyWritesBigEndianAndDecodesBackWrong)

/-- 'zzlaws_root_b1.FnAppendKeyBytesOrderAsKeys': WHATEVER THE INPUT: true; the input reads as it did. -/
def fnAppendKeyBytesOrderAsKeysSpec : ChangeSpec := { name := "fnAppendKeyBytesOrderAsKeys", fn := fun _ => fun
  | [d1, d2, d3, d4] => { results := [.lit (.bool true)], args := [d1, d2, d3, d4] }
  | _ => none }
def fnAppendKeyBytesOrderAsKeysRow : OpenClaim := { program := "qxb6613397a", sum := "0cd2ef1f728b0dfd56538063432005330a914726113372868da2540114943f9f", func := "example.com/zhaomu/zhaomu/zzlaws_root_b1.FnAppendKeyBytesOrderAsKeys", spec := "fnAppendKeyBytesOrderAsKeys", named := ["encoding/binary.BigEndian"], apart := false }
def FnAppendKeyBytesOrderAsKeysSaid : Prop := fnAppendKeyBytesOrderAsKeysRow.holds Try.pinned (OpenSpec.ofChange fnAppendKeyBytesOrderAsKeysSpec)

/-- ITS FALSE NEIGHBOUR: 'it returns false'. Refute it at one input. -/
def fnAppendKeyBytesOrderAsKeysWrong : ChangeSpec := { name := "fnAppendKeyBytesOrderAsKeys", fn := fun _ => fun
  | [d1, d2, d3, d4] => { results := [.lit (.bool false)], args := [d1, d2, d3, d4] }
  | _ => none }
def FnAppendKeyBytesOrderAsKeysWrongFalsely : Prop := fnAppendKeyBytesOrderAsKeysRow.holds Try.pinned (OpenSpec.ofChange fnAppendKeyBytesOrderAsKeysWrong)

/-- 'zzlaws_root_b1.FnKeyReaderReadsBackAppendedKeys': WHATEVER THE INPUT: true; the input reads as it did. -/
def fnKeyReaderReadsBackAppendedKeysSpec : ChangeSpec := { name := "fnKeyReaderReadsBackAppendedKeys", fn := fun _ => fun
  | [d1, d2] => { results := [.lit (.bool true)], args := [d1, d2] }
  | _ => none }
def fnKeyReaderReadsBackAppendedKeysRow : OpenClaim := { program := "qxb6613397a", sum := "0cd2ef1f728b0dfd56538063432005330a914726113372868da2540114943f9f", func := "example.com/zhaomu/zhaomu/zzlaws_root_b1.FnKeyReaderReadsBackAppendedKeys", spec := "fnKeyReaderReadsBackAppendedKeys", unfollowed := true, recurses := true, named := ["encoding/binary.BigEndian"], apart := false }
def FnKeyReaderReadsBackAppendedKeysSaid : Prop := fnKeyReaderReadsBackAppendedKeysRow.holds Try.pinned (OpenSpec.ofChange fnKeyReaderReadsBackAppendedKeysSpec)

/-- ITS FALSE NEIGHBOUR: 'it returns false'. Refute it at one input. -/
def fnKeyReaderReadsBackAppendedKeysWrong : ChangeSpec := { name := "fnKeyReaderReadsBackAppendedKeys", fn := fun _ => fun
  | [d1, d2] => { results := [.lit (.bool false)], args := [d1, d2] }
  | _ => none }
def FnKeyReaderReadsBackAppendedKeysWrongFalsely : Prop := fnKeyReaderReadsBackAppendedKeysRow.holds Try.pinned (OpenSpec.ofChange fnKeyReaderReadsBackAppendedKeysWrong)

end Rows
end Go.Proofs.Qxb6613397a
