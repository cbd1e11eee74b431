/-
  NARROWER THAN 'FOR EVERY INPUT', by the rows' own cells (each row's printed sentence says how): FnDecode: laid.
  DERIVED. THE GIVEN ROWS OF THIS SEAT. 1 by the template 'for every input the law returns true; each argument reads behind the call as it read before'; 0 by the template 'total and deterministic' (their statements: YtfebpbflpdppiaaDoorTotals.lean).
  GIVEN WITH THE SEED: the statements are not yours to turn. If you find one false, say at which input.
  Laid BY PROGRAM, IN A SANDBOX (cutbox-rows.mjs): the forced cells as the released guide's own fill.sh prints them over the translation ec29bb81fdc02946… (all of the seat's roots in one cut). By AI agents, Wed Nov 11 2026. No macro, syntax, notation, axiom, sorry.
-/
import Derived.Test.YtfebpbflpdppiaaDoorChecked
import GoSem.Claim
import GoSem.ClaimJoined
import GoSem.ClaimMapViews
import Derived.JoinedTies
import Derived.KernelRfl
namespace Go.Proofs.YtfebpbflpdppiaaDoor
/- THE CELL 'sum', in the pinned program and in every row, IS THE sha256 OF THE DUMP (.gsa) THAT YtfebpbflpdppiaaDoorProg.lean LOADS. Nothing in Lean hashes anything: it is a label: what it is worth is what the hold of that sum in a sandbox is worth. -/
noncomputable def Tryd.pinned : Pinned := { name := "ytfebpbflpdppiaadoor", sum := "ec29bb81fdc02946fc7d39bd068eaf76565b5234b8216e2285f704f5fd20e818", checked := Tryd.checked }
namespace Rows
def none {H : Type} : Left H := { results := [], args := [] }

/- WHAT THE LISTED PACKAGE-LEVEL VARIABLES READ AS WHEN THE CALL BEGINS. Each datum BY PROGRAM (the guide's laid-datum.mjs) off the statement by which the dump's own 'gosem.cut.vars' lays the variable. In a bare row this is a premise. The card (YtfebpbflpdppiaaDoorCards.lean) ties it to the program's text. -/
def laid_pub_stonevault_pub_lldb_zzEOF {H : Type} : DataW H := .iface "*errors.errorString" (.ptr (.agg [.lit (.string [69, 79, 70])]))
def laid_pub_stonevault_pub_lldb_ZzFault {H : Type} : DataW H := .iface "*errors.errorString" (.ptr (.agg [.lit (.string [116, 104, 101, 32, 102, 105, 108, 101, 32, 102, 97, 105, 108, 101, 100])]))

/-- 'laws.FnDecode': WHATEVER THE INPUT: true; the input reads as it did. -/
def fnDecodeSpec : ChangeSpec := { name := "fnDecode", fn := fun _ => fun
  | [d] => { results := [.lit (.bool true)], args := [d] }
  | _ => none }
def fnDecodeRow : OpenClaim := { program := "ytfebpbflpdppiaadoor", sum := "ec29bb81fdc02946fc7d39bd068eaf76565b5234b8216e2285f704f5fd20e818", func := "pub-stonevault/laws.FnDecode", spec := "fnDecode", inPlace := ["math.Float64frombits", "math.Float64bits", "internal/reflectlite.TypeOf", "internal/bytealg.Compare"], unfollowed := true, recurses := true, named := ["pub-stonevault/pub/lldb.ZzFault", "pub-stonevault/pub/lldb.zzEOF"], apart := false, laid := [("pub-stonevault/pub/lldb.zzEOF", laid_pub_stonevault_pub_lldb_zzEOF), ("pub-stonevault/pub/lldb.ZzFault", laid_pub_stonevault_pub_lldb_ZzFault)] }
def FnDecodeSaid : Prop := fnDecodeRow.holds Tryd.pinned (OpenSpec.ofChange fnDecodeSpec)

/-- ITS FALSE NEIGHBOUR: 'it returns false'. Refute it at one input. -/
def fnDecodeWrong : ChangeSpec := { name := "fnDecode", fn := fun _ => fun
  | [d] => { results := [.lit (.bool false)], args := [d] }
  | _ => none }
def FnDecodeWrongFalsely : Prop := fnDecodeRow.holds Tryd.pinned (OpenSpec.ofChange fnDecodeWrong)

/- THE SECOND FORM. 'bulk': how many values and letters a reading holds, each counted each time it is reached (what is shared counts as often as it is met; a slice's spare places count too). A statement '..UptoSaid' is the law's where the arguments, and the package variables that the reading takes, are together of bulk at most 1048576: NARROWER than '..Said'. Prove '..Said' where nothing that the law and all that it calls make is longer than what came in: it says more and counts as full. Else prove '..UptoSaid'. A law counts once. -/
mutual
def uptoBulk {H : Type} : DataW H → Nat
  | .lit (.string bytes) => bytes.length + 1
  | .lit _ => 1
  | .nil => 1
  | .ptr d => uptoBulk d + 1
  | .slice elems spare => uptoBulkAll elems + uptoBulkAll spare + 1
  | .agg parts => uptoBulkAll parts + 1
  | .iface _ d => uptoBulk d + 1
  | .map entries => uptoBulkEntries entries + 1
  | .held _ => 1
def uptoBulkAll {H : Type} : List (DataW H) → Nat
  | [] => 0
  | d :: r => uptoBulk d + uptoBulkAll r
def uptoBulkEntries {H : Type} : List (Lit × DataW H) → Nat
  | [] => 0
  | x :: r => uptoBulkEntry x + uptoBulkEntries r
def uptoBulkEntry {H : Type} : Lit × DataW H → Nat
  | (.string bytes, d) => bytes.length + uptoBulk d + 1
  | (_, d) => uptoBulk d + 1
 end
def uptoSmall : (H : Type) → List (DataW H) → Bool := fun _ ds => decide (uptoBulkAll ds ≤ 1048576)
def OpenSpec.upto (s : _root_.Go.ChangeSpec) : _root_.Go.OpenSpec := { _root_.Go.OpenSpec.ofChange s with cond := some uptoSmall }

/-- 'laws.FnDecode', WHERE WHAT IT READS IS OF BULK AT MOST 1048576: true; the input reads as it did. -/
def fnDecodeUptoRow : OpenClaim := { program := "ytfebpbflpdppiaadoor", sum := "ec29bb81fdc02946fc7d39bd068eaf76565b5234b8216e2285f704f5fd20e818", func := "pub-stonevault/laws.FnDecode", spec := "fnDecode", inPlace := ["math.Float64frombits", "math.Float64bits", "internal/reflectlite.TypeOf", "internal/bytealg.Compare"], unfollowed := true, recurses := true, named := ["pub-stonevault/pub/lldb.ZzFault", "pub-stonevault/pub/lldb.zzEOF"], apart := false, laid := [("pub-stonevault/pub/lldb.zzEOF", laid_pub_stonevault_pub_lldb_zzEOF), ("pub-stonevault/pub/lldb.ZzFault", laid_pub_stonevault_pub_lldb_ZzFault)], narrowed := true }
def FnDecodeUptoSaid : Prop := fnDecodeUptoRow.holds Tryd.pinned (OpenSpec.upto fnDecodeSpec)

end Rows
end Go.Proofs.YtfebpbflpdppiaaDoor
