/-
  No cell of these rows narrows 'for every input' (looked for: loops, veiled, ifaces, maps, wideKeys, modest, calm, conditions, laid).
  DERIVED. THE GIVEN ROWS OF THIS SEAT. 13 by the template 'for every input the law returns true; each argument reads behind the call as it read before'; 0 by the template 'total and deterministic' (their statements: YtphmklgbbpiafaaGreatTotals.lean).
  GIVEN WITH THE SEED: the statements are not yours to turn. If you find one false, say at which input.
  Laid BY PROGRAM, IN A SANDBOX (cutbox-rows.mjs): the forced cells as the released guide's own fill.sh prints them over the translation 674bf559d3ba389f… (all of the seat's roots in one cut). By AI agents, Wed Nov 11 2026. No macro, syntax, notation, axiom, sorry.
-/
import Derived.Test.YtphmklgbbpiafaaGreatChecked
import GoSem.Claim
import GoSem.ClaimJoined
import GoSem.ClaimMapViews
import Derived.JoinedTies
import Derived.KernelRfl
namespace Go.Proofs.YtphmklgbbpiafaaGreat
/- THE CELL 'sum', in the pinned program and in every row, IS THE sha256 OF THE DUMP (.gsa) THAT YtphmklgbbpiafaaGreatProg.lean LOADS. Nothing in Lean hashes anything: it is a label: what it is worth is what the hold of that sum in a sandbox is worth. -/
noncomputable def Tryz.pinned : Pinned := { name := "ytphmklgbbpiafaagreat", sum := "674bf559d3ba389f0537b5fc032adb67da800349afd5297e93eb2e9e3b1e6c95", checked := Tryz.checked }
namespace Rows
def none {H : Type} : Left H := { results := [], args := [] }

/-- 'laws.FnWritePpp': WHATEVER THE INPUT: true; the input reads as it did. -/
def fnWritePppSpec : ChangeSpec := { name := "fnWritePpp", fn := fun _ => fun
  | [d1, d2] => { results := [.lit (.bool true)], args := [d1, d2] }
  | _ => none }
def fnWritePppRow : OpenClaim := { program := "ytphmklgbbpiafaagreat", sum := "674bf559d3ba389f0537b5fc032adb67da800349afd5297e93eb2e9e3b1e6c95", func := "loop.example/pub-g03268/laws.FnWritePpp", spec := "fnWritePpp", unfollowed := true, recurses := true, named := ["encoding/binary.BigEndian", "encoding/binary.LittleEndian"], apart := false }
def FnWritePppSaid : Prop := fnWritePppRow.holds Tryz.pinned (OpenSpec.ofChange fnWritePppSpec)

/-- ITS FALSE NEIGHBOUR: 'it returns false'. Refute it at one input. -/
def fnWritePppWrong : ChangeSpec := { name := "fnWritePpp", fn := fun _ => fun
  | [d1, d2] => { results := [.lit (.bool false)], args := [d1, d2] }
  | _ => none }
def FnWritePppWrongFalsely : Prop := fnWritePppRow.holds Tryz.pinned (OpenSpec.ofChange fnWritePppWrong)

/-- 'laws.FnWritePppoe': WHATEVER THE INPUT: true; the input reads as it did. -/
def fnWritePppoeSpec : ChangeSpec := { name := "fnWritePppoe", fn := fun _ => fun
  | [d1, d2] => { results := [.lit (.bool true)], args := [d1, d2] }
  | _ => none }
def fnWritePppoeRow : OpenClaim := { program := "ytphmklgbbpiafaagreat", sum := "674bf559d3ba389f0537b5fc032adb67da800349afd5297e93eb2e9e3b1e6c95", func := "loop.example/pub-g03268/laws.FnWritePppoe", spec := "fnWritePppoe", unfollowed := true, recurses := true, named := ["encoding/binary.BigEndian", "encoding/binary.LittleEndian"], apart := false }
def FnWritePppoeSaid : Prop := fnWritePppoeRow.holds Tryz.pinned (OpenSpec.ofChange fnWritePppoeSpec)

/-- ITS FALSE NEIGHBOUR: 'it returns false'. Refute it at one input. -/
def fnWritePppoeWrong : ChangeSpec := { name := "fnWritePppoe", fn := fun _ => fun
  | [d1, d2] => { results := [.lit (.bool false)], args := [d1, d2] }
  | _ => none }
def FnWritePppoeWrongFalsely : Prop := fnWritePppoeRow.holds Tryz.pinned (OpenSpec.ofChange fnWritePppoeWrong)

/-- 'laws.FnWriteSnap': WHATEVER THE INPUT: true; the input reads as it did. -/
def fnWriteSnapSpec : ChangeSpec := { name := "fnWriteSnap", fn := fun _ => fun
  | [d1, d2] => { results := [.lit (.bool true)], args := [d1, d2] }
  | _ => none }
def fnWriteSnapRow : OpenClaim := { program := "ytphmklgbbpiafaagreat", sum := "674bf559d3ba389f0537b5fc032adb67da800349afd5297e93eb2e9e3b1e6c95", func := "loop.example/pub-g03268/laws.FnWriteSnap", spec := "fnWriteSnap", unfollowed := true, recurses := true, named := ["encoding/binary.BigEndian", "encoding/binary.LittleEndian"], apart := false }
def FnWriteSnapSaid : Prop := fnWriteSnapRow.holds Tryz.pinned (OpenSpec.ofChange fnWriteSnapSpec)

/-- ITS FALSE NEIGHBOUR: 'it returns false'. Refute it at one input. -/
def fnWriteSnapWrong : ChangeSpec := { name := "fnWriteSnap", fn := fun _ => fun
  | [d1, d2] => { results := [.lit (.bool false)], args := [d1, d2] }
  | _ => none }
def FnWriteSnapWrongFalsely : Prop := fnWriteSnapRow.holds Tryz.pinned (OpenSpec.ofChange fnWriteSnapWrong)

/-- 'laws.FnWriteBfd': WHATEVER THE INPUT: true; the input reads as it did. -/
def fnWriteBfdSpec : ChangeSpec := { name := "fnWriteBfd", fn := fun _ => fun
  | [d1, d2] => { results := [.lit (.bool true)], args := [d1, d2] }
  | _ => none }
def fnWriteBfdRow : OpenClaim := { program := "ytphmklgbbpiafaagreat", sum := "674bf559d3ba389f0537b5fc032adb67da800349afd5297e93eb2e9e3b1e6c95", func := "loop.example/pub-g03268/laws.FnWriteBfd", spec := "fnWriteBfd", unfollowed := true, recurses := true, named := ["encoding/binary.BigEndian", "encoding/binary.LittleEndian"], apart := false }
def FnWriteBfdSaid : Prop := fnWriteBfdRow.holds Tryz.pinned (OpenSpec.ofChange fnWriteBfdSpec)

/-- ITS FALSE NEIGHBOUR: 'it returns false'. Refute it at one input. -/
def fnWriteBfdWrong : ChangeSpec := { name := "fnWriteBfd", fn := fun _ => fun
  | [d1, d2] => { results := [.lit (.bool false)], args := [d1, d2] }
  | _ => none }
def FnWriteBfdWrongFalsely : Prop := fnWriteBfdRow.holds Tryz.pinned (OpenSpec.ofChange fnWriteBfdWrong)

/-- 'laws.FnWriteEap': WHATEVER THE INPUT: true; the input reads as it did. -/
def fnWriteEapSpec : ChangeSpec := { name := "fnWriteEap", fn := fun _ => fun
  | [d1, d2] => { results := [.lit (.bool true)], args := [d1, d2] }
  | _ => none }
def fnWriteEapRow : OpenClaim := { program := "ytphmklgbbpiafaagreat", sum := "674bf559d3ba389f0537b5fc032adb67da800349afd5297e93eb2e9e3b1e6c95", func := "loop.example/pub-g03268/laws.FnWriteEap", spec := "fnWriteEap", unfollowed := true, recurses := true, named := ["encoding/binary.BigEndian", "encoding/binary.LittleEndian"], apart := false }
def FnWriteEapSaid : Prop := fnWriteEapRow.holds Tryz.pinned (OpenSpec.ofChange fnWriteEapSpec)

/-- ITS FALSE NEIGHBOUR: 'it returns false'. Refute it at one input. -/
def fnWriteEapWrong : ChangeSpec := { name := "fnWriteEap", fn := fun _ => fun
  | [d1, d2] => { results := [.lit (.bool false)], args := [d1, d2] }
  | _ => none }
def FnWriteEapWrongFalsely : Prop := fnWriteEapRow.holds Tryz.pinned (OpenSpec.ofChange fnWriteEapWrong)

/-- 'laws.FnWriteEapol': WHATEVER THE INPUT: true; the input reads as it did. -/
def fnWriteEapolSpec : ChangeSpec := { name := "fnWriteEapol", fn := fun _ => fun
  | [d1, d2] => { results := [.lit (.bool true)], args := [d1, d2] }
  | _ => none }
def fnWriteEapolRow : OpenClaim := { program := "ytphmklgbbpiafaagreat", sum := "674bf559d3ba389f0537b5fc032adb67da800349afd5297e93eb2e9e3b1e6c95", func := "loop.example/pub-g03268/laws.FnWriteEapol", spec := "fnWriteEapol", unfollowed := true, recurses := true, named := ["encoding/binary.BigEndian", "encoding/binary.LittleEndian"], apart := false }
def FnWriteEapolSaid : Prop := fnWriteEapolRow.holds Tryz.pinned (OpenSpec.ofChange fnWriteEapolSpec)

/-- ITS FALSE NEIGHBOUR: 'it returns false'. Refute it at one input. -/
def fnWriteEapolWrong : ChangeSpec := { name := "fnWriteEapol", fn := fun _ => fun
  | [d1, d2] => { results := [.lit (.bool false)], args := [d1, d2] }
  | _ => none }
def FnWriteEapolWrongFalsely : Prop := fnWriteEapolRow.holds Tryz.pinned (OpenSpec.ofChange fnWriteEapolWrong)

/-- 'laws.FnWriteErspan': WHATEVER THE INPUT: true; the input reads as it did. -/
def fnWriteErspanSpec : ChangeSpec := { name := "fnWriteErspan", fn := fun _ => fun
  | [d1, d2] => { results := [.lit (.bool true)], args := [d1, d2] }
  | _ => none }
def fnWriteErspanRow : OpenClaim := { program := "ytphmklgbbpiafaagreat", sum := "674bf559d3ba389f0537b5fc032adb67da800349afd5297e93eb2e9e3b1e6c95", func := "loop.example/pub-g03268/laws.FnWriteErspan", spec := "fnWriteErspan", unfollowed := true, recurses := true, named := ["encoding/binary.BigEndian", "encoding/binary.LittleEndian"], apart := false }
def FnWriteErspanSaid : Prop := fnWriteErspanRow.holds Tryz.pinned (OpenSpec.ofChange fnWriteErspanSpec)

/-- ITS FALSE NEIGHBOUR: 'it returns false'. Refute it at one input. -/
def fnWriteErspanWrong : ChangeSpec := { name := "fnWriteErspan", fn := fun _ => fun
  | [d1, d2] => { results := [.lit (.bool false)], args := [d1, d2] }
  | _ => none }
def FnWriteErspanWrongFalsely : Prop := fnWriteErspanRow.holds Tryz.pinned (OpenSpec.ofChange fnWriteErspanWrong)

/-- 'laws.FnWriteGtp': WHATEVER THE INPUT: true; the input reads as it did. -/
def fnWriteGtpSpec : ChangeSpec := { name := "fnWriteGtp", fn := fun _ => fun
  | [d1, d2] => { results := [.lit (.bool true)], args := [d1, d2] }
  | _ => none }
def fnWriteGtpRow : OpenClaim := { program := "ytphmklgbbpiafaagreat", sum := "674bf559d3ba389f0537b5fc032adb67da800349afd5297e93eb2e9e3b1e6c95", func := "loop.example/pub-g03268/laws.FnWriteGtp", spec := "fnWriteGtp", unfollowed := true, recurses := true, named := ["encoding/binary.BigEndian", "encoding/binary.LittleEndian"], apart := false }
def FnWriteGtpSaid : Prop := fnWriteGtpRow.holds Tryz.pinned (OpenSpec.ofChange fnWriteGtpSpec)

/-- ITS FALSE NEIGHBOUR: 'it returns false'. Refute it at one input. -/
def fnWriteGtpWrong : ChangeSpec := { name := "fnWriteGtp", fn := fun _ => fun
  | [d1, d2] => { results := [.lit (.bool false)], args := [d1, d2] }
  | _ => none }
def FnWriteGtpWrongFalsely : Prop := fnWriteGtpRow.holds Tryz.pinned (OpenSpec.ofChange fnWriteGtpWrong)

/-- 'laws.FnWriteKey': WHATEVER THE INPUT: true; the input reads as it did. -/
def fnWriteKeySpec : ChangeSpec := { name := "fnWriteKey", fn := fun _ => fun
  | [d1, d2] => { results := [.lit (.bool true)], args := [d1, d2] }
  | _ => none }
def fnWriteKeyRow : OpenClaim := { program := "ytphmklgbbpiafaagreat", sum := "674bf559d3ba389f0537b5fc032adb67da800349afd5297e93eb2e9e3b1e6c95", func := "loop.example/pub-g03268/laws.FnWriteKey", spec := "fnWriteKey", unfollowed := true, recurses := true, named := ["encoding/binary.BigEndian", "encoding/binary.LittleEndian"], apart := false }
def FnWriteKeySaid : Prop := fnWriteKeyRow.holds Tryz.pinned (OpenSpec.ofChange fnWriteKeySpec)

/-- ITS FALSE NEIGHBOUR: 'it returns false'. Refute it at one input. -/
def fnWriteKeyWrong : ChangeSpec := { name := "fnWriteKey", fn := fun _ => fun
  | [d1, d2] => { results := [.lit (.bool false)], args := [d1, d2] }
  | _ => none }
def FnWriteKeyWrongFalsely : Prop := fnWriteKeyRow.holds Tryz.pinned (OpenSpec.ofChange fnWriteKeyWrong)

/-- 'laws.FnWriteLlc': WHATEVER THE INPUT: true; the input reads as it did. -/
def fnWriteLlcSpec : ChangeSpec := { name := "fnWriteLlc", fn := fun _ => fun
  | [d1, d2] => { results := [.lit (.bool true)], args := [d1, d2] }
  | _ => none }
def fnWriteLlcRow : OpenClaim := { program := "ytphmklgbbpiafaagreat", sum := "674bf559d3ba389f0537b5fc032adb67da800349afd5297e93eb2e9e3b1e6c95", func := "loop.example/pub-g03268/laws.FnWriteLlc", spec := "fnWriteLlc", unfollowed := true, recurses := true, named := ["encoding/binary.BigEndian", "encoding/binary.LittleEndian"], apart := false }
def FnWriteLlcSaid : Prop := fnWriteLlcRow.holds Tryz.pinned (OpenSpec.ofChange fnWriteLlcSpec)

/-- ITS FALSE NEIGHBOUR: 'it returns false'. Refute it at one input. -/
def fnWriteLlcWrong : ChangeSpec := { name := "fnWriteLlc", fn := fun _ => fun
  | [d1, d2] => { results := [.lit (.bool false)], args := [d1, d2] }
  | _ => none }
def FnWriteLlcWrongFalsely : Prop := fnWriteLlcRow.holds Tryz.pinned (OpenSpec.ofChange fnWriteLlcWrong)

/-- 'laws.FnWriteLoopback': WHATEVER THE INPUT: true; the input reads as it did. -/
def fnWriteLoopbackSpec : ChangeSpec := { name := "fnWriteLoopback", fn := fun _ => fun
  | [d1, d2] => { results := [.lit (.bool true)], args := [d1, d2] }
  | _ => none }
def fnWriteLoopbackRow : OpenClaim := { program := "ytphmklgbbpiafaagreat", sum := "674bf559d3ba389f0537b5fc032adb67da800349afd5297e93eb2e9e3b1e6c95", func := "loop.example/pub-g03268/laws.FnWriteLoopback", spec := "fnWriteLoopback", unfollowed := true, recurses := true, named := ["encoding/binary.BigEndian", "encoding/binary.LittleEndian"], apart := false }
def FnWriteLoopbackSaid : Prop := fnWriteLoopbackRow.holds Tryz.pinned (OpenSpec.ofChange fnWriteLoopbackSpec)

/-- ITS FALSE NEIGHBOUR: 'it returns false'. Refute it at one input. -/
def fnWriteLoopbackWrong : ChangeSpec := { name := "fnWriteLoopback", fn := fun _ => fun
  | [d1, d2] => { results := [.lit (.bool false)], args := [d1, d2] }
  | _ => none }
def FnWriteLoopbackWrongFalsely : Prop := fnWriteLoopbackRow.holds Tryz.pinned (OpenSpec.ofChange fnWriteLoopbackWrong)

/-- 'laws.FnWriteMpls': WHATEVER THE INPUT: true; the input reads as it did. -/
def fnWriteMplsSpec : ChangeSpec := { name := "fnWriteMpls", fn := fun _ => fun
  | [d1, d2] => { results := [.lit (.bool true)], args := [d1, d2] }
  | _ => none }
def fnWriteMplsRow : OpenClaim := { program := "ytphmklgbbpiafaagreat", sum := "674bf559d3ba389f0537b5fc032adb67da800349afd5297e93eb2e9e3b1e6c95", func := "loop.example/pub-g03268/laws.FnWriteMpls", spec := "fnWriteMpls", unfollowed := true, recurses := true, named := ["encoding/binary.BigEndian", "encoding/binary.LittleEndian"], apart := false }
def FnWriteMplsSaid : Prop := fnWriteMplsRow.holds Tryz.pinned (OpenSpec.ofChange fnWriteMplsSpec)

/-- ITS FALSE NEIGHBOUR: 'it returns false'. Refute it at one input. -/
def fnWriteMplsWrong : ChangeSpec := { name := "fnWriteMpls", fn := fun _ => fun
  | [d1, d2] => { results := [.lit (.bool false)], args := [d1, d2] }
  | _ => none }
def FnWriteMplsWrongFalsely : Prop := fnWriteMplsRow.holds Tryz.pinned (OpenSpec.ofChange fnWriteMplsWrong)

/-- 'laws.FnWriteNtp': WHATEVER THE INPUT: true; the input reads as it did. -/
def fnWriteNtpSpec : ChangeSpec := { name := "fnWriteNtp", fn := fun _ => fun
  | [d1, d2] => { results := [.lit (.bool true)], args := [d1, d2] }
  | _ => none }
def fnWriteNtpRow : OpenClaim := { program := "ytphmklgbbpiafaagreat", sum := "674bf559d3ba389f0537b5fc032adb67da800349afd5297e93eb2e9e3b1e6c95", func := "loop.example/pub-g03268/laws.FnWriteNtp", spec := "fnWriteNtp", unfollowed := true, recurses := true, named := ["encoding/binary.BigEndian", "encoding/binary.LittleEndian"], apart := false }
def FnWriteNtpSaid : Prop := fnWriteNtpRow.holds Tryz.pinned (OpenSpec.ofChange fnWriteNtpSpec)

/-- ITS FALSE NEIGHBOUR: 'it returns false'. Refute it at one input. -/
def fnWriteNtpWrong : ChangeSpec := { name := "fnWriteNtp", fn := fun _ => fun
  | [d1, d2] => { results := [.lit (.bool false)], args := [d1, d2] }
  | _ => none }
def FnWriteNtpWrongFalsely : Prop := fnWriteNtpRow.holds Tryz.pinned (OpenSpec.ofChange fnWriteNtpWrong)

/- THE SECOND FORM. 'bulk': how many values and letters a reading holds, each counted each time it is reached (what is shared counts as often as it is met; a slice's spare places count too). A statement '..UptoSaid' is the law's where the arguments, and the package variables that the reading takes, are together of bulk at most 1048576: NARROWER than '..Said'. Prove '..Said' where nothing that the law and all that it calls make is longer than what came in: it says more and counts as full. Else prove '..UptoSaid'. A law counts once. -/
mutual
def uptoBulk {H : Type} : DataW H → Nat
  | .lit (.string bytes) => bytes.length + 1
  | .lit _ => 1
  | .nil => 1
  | .ptr d => uptoBulk d + 1
  | .slice elems spare => uptoBulkAll elems + uptoBulkAll spare + 1
  | .agg parts => uptoBulkAll parts + 1
  | .iface _ d => uptoBulk d + 1
  | .map entries => uptoBulkEntries entries + 1
  | .held _ => 1
def uptoBulkAll {H : Type} : List (DataW H) → Nat
  | [] => 0
  | d :: r => uptoBulk d + uptoBulkAll r
def uptoBulkEntries {H : Type} : List (Lit × DataW H) → Nat
  | [] => 0
  | x :: r => uptoBulkEntry x + uptoBulkEntries r
def uptoBulkEntry {H : Type} : Lit × DataW H → Nat
  | (.string bytes, d) => bytes.length + uptoBulk d + 1
  | (_, d) => uptoBulk d + 1
 end
def uptoSmall : (H : Type) → List (DataW H) → Bool := fun _ ds => decide (uptoBulkAll ds ≤ 1048576)
def OpenSpec.upto (s : _root_.Go.ChangeSpec) : _root_.Go.OpenSpec := { _root_.Go.OpenSpec.ofChange s with cond := some uptoSmall }

/-- 'laws.FnWritePpp', WHERE WHAT IT READS IS OF BULK AT MOST 1048576: true; the input reads as it did. -/
def fnWritePppUptoRow : OpenClaim := { program := "ytphmklgbbpiafaagreat", sum := "674bf559d3ba389f0537b5fc032adb67da800349afd5297e93eb2e9e3b1e6c95", func := "loop.example/pub-g03268/laws.FnWritePpp", spec := "fnWritePpp", unfollowed := true, recurses := true, named := ["encoding/binary.BigEndian", "encoding/binary.LittleEndian"], apart := false, narrowed := true }
def FnWritePppUptoSaid : Prop := fnWritePppUptoRow.holds Tryz.pinned (OpenSpec.upto fnWritePppSpec)

/-- 'laws.FnWritePppoe', WHERE WHAT IT READS IS OF BULK AT MOST 1048576: true; the input reads as it did. -/
def fnWritePppoeUptoRow : OpenClaim := { program := "ytphmklgbbpiafaagreat", sum := "674bf559d3ba389f0537b5fc032adb67da800349afd5297e93eb2e9e3b1e6c95", func := "loop.example/pub-g03268/laws.FnWritePppoe", spec := "fnWritePppoe", unfollowed := true, recurses := true, named := ["encoding/binary.BigEndian", "encoding/binary.LittleEndian"], apart := false, narrowed := true }
def FnWritePppoeUptoSaid : Prop := fnWritePppoeUptoRow.holds Tryz.pinned (OpenSpec.upto fnWritePppoeSpec)

/-- 'laws.FnWriteSnap', WHERE WHAT IT READS IS OF BULK AT MOST 1048576: true; the input reads as it did. -/
def fnWriteSnapUptoRow : OpenClaim := { program := "ytphmklgbbpiafaagreat", sum := "674bf559d3ba389f0537b5fc032adb67da800349afd5297e93eb2e9e3b1e6c95", func := "loop.example/pub-g03268/laws.FnWriteSnap", spec := "fnWriteSnap", unfollowed := true, recurses := true, named := ["encoding/binary.BigEndian", "encoding/binary.LittleEndian"], apart := false, narrowed := true }
def FnWriteSnapUptoSaid : Prop := fnWriteSnapUptoRow.holds Tryz.pinned (OpenSpec.upto fnWriteSnapSpec)

/-- 'laws.FnWriteBfd', WHERE WHAT IT READS IS OF BULK AT MOST 1048576: true; the input reads as it did. -/
def fnWriteBfdUptoRow : OpenClaim := { program := "ytphmklgbbpiafaagreat", sum := "674bf559d3ba389f0537b5fc032adb67da800349afd5297e93eb2e9e3b1e6c95", func := "loop.example/pub-g03268/laws.FnWriteBfd", spec := "fnWriteBfd", unfollowed := true, recurses := true, named := ["encoding/binary.BigEndian", "encoding/binary.LittleEndian"], apart := false, narrowed := true }
def FnWriteBfdUptoSaid : Prop := fnWriteBfdUptoRow.holds Tryz.pinned (OpenSpec.upto fnWriteBfdSpec)

/-- 'laws.FnWriteEap', WHERE WHAT IT READS IS OF BULK AT MOST 1048576: true; the input reads as it did. -/
def fnWriteEapUptoRow : OpenClaim := { program := "ytphmklgbbpiafaagreat", sum := "674bf559d3ba389f0537b5fc032adb67da800349afd5297e93eb2e9e3b1e6c95", func := "loop.example/pub-g03268/laws.FnWriteEap", spec := "fnWriteEap", unfollowed := true, recurses := true, named := ["encoding/binary.BigEndian", "encoding/binary.LittleEndian"], apart := false, narrowed := true }
def FnWriteEapUptoSaid : Prop := fnWriteEapUptoRow.holds Tryz.pinned (OpenSpec.upto fnWriteEapSpec)

/-- 'laws.FnWriteEapol', WHERE WHAT IT READS IS OF BULK AT MOST 1048576: true; the input reads as it did. -/
def fnWriteEapolUptoRow : OpenClaim := { program := "ytphmklgbbpiafaagreat", sum := "674bf559d3ba389f0537b5fc032adb67da800349afd5297e93eb2e9e3b1e6c95", func := "loop.example/pub-g03268/laws.FnWriteEapol", spec := "fnWriteEapol", unfollowed := true, recurses := true, named := ["encoding/binary.BigEndian", "encoding/binary.LittleEndian"], apart := false, narrowed := true }
def FnWriteEapolUptoSaid : Prop := fnWriteEapolUptoRow.holds Tryz.pinned (OpenSpec.upto fnWriteEapolSpec)

/-- 'laws.FnWriteErspan', WHERE WHAT IT READS IS OF BULK AT MOST 1048576: true; the input reads as it did. -/
def fnWriteErspanUptoRow : OpenClaim := { program := "ytphmklgbbpiafaagreat", sum := "674bf559d3ba389f0537b5fc032adb67da800349afd5297e93eb2e9e3b1e6c95", func := "loop.example/pub-g03268/laws.FnWriteErspan", spec := "fnWriteErspan", unfollowed := true, recurses := true, named := ["encoding/binary.BigEndian", "encoding/binary.LittleEndian"], apart := false, narrowed := true }
def FnWriteErspanUptoSaid : Prop := fnWriteErspanUptoRow.holds Tryz.pinned (OpenSpec.upto fnWriteErspanSpec)

/-- 'laws.FnWriteGtp', WHERE WHAT IT READS IS OF BULK AT MOST 1048576: true; the input reads as it did. -/
def fnWriteGtpUptoRow : OpenClaim := { program := "ytphmklgbbpiafaagreat", sum := "674bf559d3ba389f0537b5fc032adb67da800349afd5297e93eb2e9e3b1e6c95", func := "loop.example/pub-g03268/laws.FnWriteGtp", spec := "fnWriteGtp", unfollowed := true, recurses := true, named := ["encoding/binary.BigEndian", "encoding/binary.LittleEndian"], apart := false, narrowed := true }
def FnWriteGtpUptoSaid : Prop := fnWriteGtpUptoRow.holds Tryz.pinned (OpenSpec.upto fnWriteGtpSpec)

/-- 'laws.FnWriteKey', WHERE WHAT IT READS IS OF BULK AT MOST 1048576: true; the input reads as it did. -/
def fnWriteKeyUptoRow : OpenClaim := { program := "ytphmklgbbpiafaagreat", sum := "674bf559d3ba389f0537b5fc032adb67da800349afd5297e93eb2e9e3b1e6c95", func := "loop.example/pub-g03268/laws.FnWriteKey", spec := "fnWriteKey", unfollowed := true, recurses := true, named := ["encoding/binary.BigEndian", "encoding/binary.LittleEndian"], apart := false, narrowed := true }
def FnWriteKeyUptoSaid : Prop := fnWriteKeyUptoRow.holds Tryz.pinned (OpenSpec.upto fnWriteKeySpec)

/-- 'laws.FnWriteLlc', WHERE WHAT IT READS IS OF BULK AT MOST 1048576: true; the input reads as it did. -/
def fnWriteLlcUptoRow : OpenClaim := { program := "ytphmklgbbpiafaagreat", sum := "674bf559d3ba389f0537b5fc032adb67da800349afd5297e93eb2e9e3b1e6c95", func := "loop.example/pub-g03268/laws.FnWriteLlc", spec := "fnWriteLlc", unfollowed := true, recurses := true, named := ["encoding/binary.BigEndian", "encoding/binary.LittleEndian"], apart := false, narrowed := true }
def FnWriteLlcUptoSaid : Prop := fnWriteLlcUptoRow.holds Tryz.pinned (OpenSpec.upto fnWriteLlcSpec)

/-- 'laws.FnWriteLoopback', WHERE WHAT IT READS IS OF BULK AT MOST 1048576: true; the input reads as it did. -/
def fnWriteLoopbackUptoRow : OpenClaim := { program := "ytphmklgbbpiafaagreat", sum := "674bf559d3ba389f0537b5fc032adb67da800349afd5297e93eb2e9e3b1e6c95", func := "loop.example/pub-g03268/laws.FnWriteLoopback", spec := "fnWriteLoopback", unfollowed := true, recurses := true, named := ["encoding/binary.BigEndian", "encoding/binary.LittleEndian"], apart := false, narrowed := true }
def FnWriteLoopbackUptoSaid : Prop := fnWriteLoopbackUptoRow.holds Tryz.pinned (OpenSpec.upto fnWriteLoopbackSpec)

/-- 'laws.FnWriteMpls', WHERE WHAT IT READS IS OF BULK AT MOST 1048576: true; the input reads as it did. -/
def fnWriteMplsUptoRow : OpenClaim := { program := "ytphmklgbbpiafaagreat", sum := "674bf559d3ba389f0537b5fc032adb67da800349afd5297e93eb2e9e3b1e6c95", func := "loop.example/pub-g03268/laws.FnWriteMpls", spec := "fnWriteMpls", unfollowed := true, recurses := true, named := ["encoding/binary.BigEndian", "encoding/binary.LittleEndian"], apart := false, narrowed := true }
def FnWriteMplsUptoSaid : Prop := fnWriteMplsUptoRow.holds Tryz.pinned (OpenSpec.upto fnWriteMplsSpec)

/-- 'laws.FnWriteNtp', WHERE WHAT IT READS IS OF BULK AT MOST 1048576: true; the input reads as it did. -/
def fnWriteNtpUptoRow : OpenClaim := { program := "ytphmklgbbpiafaagreat", sum := "674bf559d3ba389f0537b5fc032adb67da800349afd5297e93eb2e9e3b1e6c95", func := "loop.example/pub-g03268/laws.FnWriteNtp", spec := "fnWriteNtp", unfollowed := true, recurses := true, named := ["encoding/binary.BigEndian", "encoding/binary.LittleEndian"], apart := false, narrowed := true }
def FnWriteNtpUptoSaid : Prop := fnWriteNtpUptoRow.holds Tryz.pinned (OpenSpec.upto fnWriteNtpSpec)

end Rows
end Go.Proofs.YtphmklgbbpiafaaGreat
