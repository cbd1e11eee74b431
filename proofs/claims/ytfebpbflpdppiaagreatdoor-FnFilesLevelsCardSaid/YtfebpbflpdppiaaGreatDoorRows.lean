/-
  NARROWER THAN 'FOR EVERY INPUT', by the rows' own cells (each row's printed sentence says how): FnFiles: laid · FnFilesLevels: laid.
  DERIVED. THE GIVEN ROWS OF THIS SEAT. 2 by the template 'for every input the law returns true; each argument reads behind the call as it read before'; 0 by the template 'total and deterministic' (their statements: YtfebpbflpdppiaaGreatDoorTotals.lean).
  GIVEN WITH THE SEED: the statements are not yours to turn. If you find one false, say at which input.
  Laid BY PROGRAM, IN A SANDBOX (cutbox-rows.mjs): the forced cells as the released guide's own fill.sh prints them over the translation 56f0f5433424c0af… (all of the seat's roots in one cut). By AI agents, Wed Nov 11 2026. No macro, syntax, notation, axiom, sorry.
-/
import Derived.Test.YtfebpbflpdppiaaGreatDoorChecked
import GoSem.Claim
import GoSem.ClaimJoined
import GoSem.ClaimMapViews
import Derived.JoinedTies
import Derived.KernelRfl
namespace Go.Proofs.YtfebpbflpdppiaaGreatDoor
/- THE CELL 'sum', in the pinned program and in every row, IS THE sha256 OF THE DUMP (.gsa) THAT YtfebpbflpdppiaaGreatDoorProg.lean LOADS. Nothing in Lean hashes anything: it is a label: what it is worth is what the hold of that sum in a sandbox is worth. -/
noncomputable def Tryz.pinned : Pinned := { name := "ytfebpbflpdppiaagreatdoor", sum := "56f0f5433424c0af44fd7e0670960d2d18c46c67c3374255beb1a1034ded1654", checked := Tryz.checked }
namespace Rows
def none {H : Type} : Left H := { results := [], args := [] }

/- WHAT THE LISTED PACKAGE-LEVEL VARIABLES READ AS WHEN THE CALL BEGINS. Each datum BY PROGRAM (the guide's laid-datum.mjs) off the statement by which the dump's own 'gosem.cut.vars' lays the variable. In a bare row this is a premise. The card (YtfebpbflpdppiaaGreatDoorCards.lean) ties it to the program's text. -/
def laid_pub_stonevault_pub_lldb_zzEOF {H : Type} : DataW H := .iface "*errors.errorString" (.ptr (.agg [.lit (.string [69, 79, 70])]))
def laid_pub_stonevault_pub_lldb_ZzFault {H : Type} : DataW H := .iface "*errors.errorString" (.ptr (.agg [.lit (.string [116, 104, 101, 32, 102, 105, 108, 101, 32, 102, 97, 105, 108, 101, 100])]))

/-- 'laws.FnFiles': WHATEVER THE INPUT: true; the input reads as it did. -/
def fnFilesSpec : ChangeSpec := { name := "fnFiles", fn := fun _ => fun
  | [d1, d2, d3] => { results := [.lit (.bool true)], args := [d1, d2, d3] }
  | _ => none }
def fnFilesRow : OpenClaim := { program := "ytfebpbflpdppiaagreatdoor", sum := "56f0f5433424c0af44fd7e0670960d2d18c46c67c3374255beb1a1034ded1654", func := "pub-stonevault/laws.FnFiles", spec := "fnFiles", inPlace := ["internal/reflectlite.TypeOf"], unfollowed := true, recurses := true, named := ["pub-stonevault/pub/lldb.ZzFault", "pub-stonevault/pub/lldb.zzEOF"], apart := false, laid := [("pub-stonevault/pub/lldb.zzEOF", laid_pub_stonevault_pub_lldb_zzEOF), ("pub-stonevault/pub/lldb.ZzFault", laid_pub_stonevault_pub_lldb_ZzFault)] }
def FnFilesSaid : Prop := fnFilesRow.holds Tryz.pinned (OpenSpec.ofChange fnFilesSpec)

/-- ITS FALSE NEIGHBOUR: 'it returns false'. Refute it at one input. -/
def fnFilesWrong : ChangeSpec := { name := "fnFiles", fn := fun _ => fun
  | [d1, d2, d3] => { results := [.lit (.bool false)], args := [d1, d2, d3] }
  | _ => none }
def FnFilesWrongFalsely : Prop := fnFilesRow.holds Tryz.pinned (OpenSpec.ofChange fnFilesWrong)

/-- 'laws.FnFilesLevels': WHATEVER THE INPUT: true; the input reads as it did. -/
def fnFilesLevelsSpec : ChangeSpec := { name := "fnFilesLevels", fn := fun _ => fun
  | [d1, d2, d3, d4] => { results := [.lit (.bool true)], args := [d1, d2, d3, d4] }
  | _ => none }
def fnFilesLevelsRow : OpenClaim := { program := "ytfebpbflpdppiaagreatdoor", sum := "56f0f5433424c0af44fd7e0670960d2d18c46c67c3374255beb1a1034ded1654", func := "pub-stonevault/laws.FnFilesLevels", spec := "fnFilesLevels", inPlace := ["internal/reflectlite.TypeOf"], unfollowed := true, recurses := true, named := ["pub-stonevault/pub/lldb.ZzFault", "pub-stonevault/pub/lldb.zzEOF"], apart := false, laid := [("pub-stonevault/pub/lldb.zzEOF", laid_pub_stonevault_pub_lldb_zzEOF), ("pub-stonevault/pub/lldb.ZzFault", laid_pub_stonevault_pub_lldb_ZzFault)] }
def FnFilesLevelsSaid : Prop := fnFilesLevelsRow.holds Tryz.pinned (OpenSpec.ofChange fnFilesLevelsSpec)

/-- ITS FALSE NEIGHBOUR: 'it returns false'. Refute it at one input. -/
def fnFilesLevelsWrong : ChangeSpec := { name := "fnFilesLevels", fn := fun _ => fun
  | [d1, d2, d3, d4] => { results := [.lit (.bool false)], args := [d1, d2, d3, d4] }
  | _ => none }
def FnFilesLevelsWrongFalsely : Prop := fnFilesLevelsRow.holds Tryz.pinned (OpenSpec.ofChange fnFilesLevelsWrong)

/- THE SECOND FORM. 'bulk': how many values and letters a reading holds, each counted each time it is reached (what is shared counts as often as it is met; a slice's spare places count too). A statement '..UptoSaid' is the law's where the arguments, and the package variables that the reading takes, are together of bulk at most 1048576: NARROWER than '..Said'. Prove '..Said' where nothing that the law and all that it calls make is longer than what came in: it says more and counts as full. Else prove '..UptoSaid'. A law counts once. -/
mutual
def uptoBulk {H : Type} : DataW H → Nat
  | .lit (.string bytes) => bytes.length + 1
  | .lit _ => 1
  | .nil => 1
  | .ptr d => uptoBulk d + 1
  | .slice elems spare => uptoBulkAll elems + uptoBulkAll spare + 1
  | .agg parts => uptoBulkAll parts + 1
  | .iface _ d => uptoBulk d + 1
  | .map entries => uptoBulkEntries entries + 1
  | .held _ => 1
def uptoBulkAll {H : Type} : List (DataW H) → Nat
  | [] => 0
  | d :: r => uptoBulk d + uptoBulkAll r
def uptoBulkEntries {H : Type} : List (Lit × DataW H) → Nat
  | [] => 0
  | x :: r => uptoBulkEntry x + uptoBulkEntries r
def uptoBulkEntry {H : Type} : Lit × DataW H → Nat
  | (.string bytes, d) => bytes.length + uptoBulk d + 1
  | (_, d) => uptoBulk d + 1
 end
def uptoSmall : (H : Type) → List (DataW H) → Bool := fun _ ds => decide (uptoBulkAll ds ≤ 1048576)
def OpenSpec.upto (s : _root_.Go.ChangeSpec) : _root_.Go.OpenSpec := { _root_.Go.OpenSpec.ofChange s with cond := some uptoSmall }

/-- 'laws.FnFiles', WHERE WHAT IT READS IS OF BULK AT MOST 1048576: true; the input reads as it did. -/
def fnFilesUptoRow : OpenClaim := { program := "ytfebpbflpdppiaagreatdoor", sum := "56f0f5433424c0af44fd7e0670960d2d18c46c67c3374255beb1a1034ded1654", func := "pub-stonevault/laws.FnFiles", spec := "fnFiles", inPlace := ["internal/reflectlite.TypeOf"], unfollowed := true, recurses := true, named := ["pub-stonevault/pub/lldb.ZzFault", "pub-stonevault/pub/lldb.zzEOF"], apart := false, laid := [("pub-stonevault/pub/lldb.zzEOF", laid_pub_stonevault_pub_lldb_zzEOF), ("pub-stonevault/pub/lldb.ZzFault", laid_pub_stonevault_pub_lldb_ZzFault)], narrowed := true }
def FnFilesUptoSaid : Prop := fnFilesUptoRow.holds Tryz.pinned (OpenSpec.upto fnFilesSpec)

/-- 'laws.FnFilesLevels', WHERE WHAT IT READS IS OF BULK AT MOST 1048576: true; the input reads as it did. -/
def fnFilesLevelsUptoRow : OpenClaim := { program := "ytfebpbflpdppiaagreatdoor", sum := "56f0f5433424c0af44fd7e0670960d2d18c46c67c3374255beb1a1034ded1654", func := "pub-stonevault/laws.FnFilesLevels", spec := "fnFilesLevels", inPlace := ["internal/reflectlite.TypeOf"], unfollowed := true, recurses := true, named := ["pub-stonevault/pub/lldb.ZzFault", "pub-stonevault/pub/lldb.zzEOF"], apart := false, laid := [("pub-stonevault/pub/lldb.zzEOF", laid_pub_stonevault_pub_lldb_zzEOF), ("pub-stonevault/pub/lldb.ZzFault", laid_pub_stonevault_pub_lldb_ZzFault)], narrowed := true }
def FnFilesLevelsUptoSaid : Prop := fnFilesLevelsUptoRow.holds Tryz.pinned (OpenSpec.upto fnFilesLevelsSpec)

end Rows
end Go.Proofs.YtfebpbflpdppiaaGreatDoor
