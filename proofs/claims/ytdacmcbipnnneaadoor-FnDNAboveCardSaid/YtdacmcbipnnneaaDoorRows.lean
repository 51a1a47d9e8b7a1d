/-
  NARROWER THAN 'FOR EVERY INPUT', by the rows' own cells (each row's printed sentence says how): FnDNBack: laid · FnDNEqual: laid · FnDNAbove: laid · FnDNMatch: laid.
  DERIVED. THE GIVEN ROWS OF THIS SEAT. 4 by the template 'for every input the law returns true; each argument reads behind the call as it read before'; 0 by the template 'total and deterministic' (their statements: YtdacmcbipnnneaaDoorTotals.lean).
  GIVEN WITH THE SEED: the statements are not yours to turn. If you find one false, say at which input.
  Laid BY PROGRAM, IN A SANDBOX (cutbox-rows.mjs): the forced cells as the released guide's own fill.sh prints them over the translation 659ac436db0ddd8b… (all of the seat's roots in one cut). By AI agents, Wed Nov 11 2026. No macro, syntax, notation, axiom, sorry.
-/
import Derived.Test.YtdacmcbipnnneaaDoorChecked
import GoSem.Claim
import GoSem.ClaimJoined
import GoSem.ClaimMapViews
import Derived.JoinedTies
import Derived.KernelRfl
namespace Go.Proofs.YtdacmcbipnnneaaDoor
/- THE CELL 'sum', in the pinned program and in every row, IS THE sha256 OF THE DUMP (.gsa) THAT YtdacmcbipnnneaaDoorProg.lean LOADS. Nothing in Lean hashes anything: it is a label: what it is worth is what the hold of that sum in a sandbox is worth. -/
noncomputable def Tryd.pinned : Pinned := { name := "ytdacmcbipnnneaadoor", sum := "659ac436db0ddd8b4bd55606e341065d35a2eeaad5627178886ee64cfd0682d9", checked := Tryd.checked }
namespace Rows
def none {H : Type} : Left H := { results := [], args := [] }

/- WHAT THE LISTED PACKAGE-LEVEL VARIABLES READ AS WHEN THE CALL BEGINS. Each datum BY PROGRAM (the guide's laid-datum.mjs) off the statement by which the dump's own 'gosem.cut.vars' lays the variable. In a bare row this is a premise. The card (YtdacmcbipnnneaaDoorCards.lean) ties it to the program's text. -/
def laid_bytes_ErrTooLarge {H : Type} : DataW H := .iface "*errors.errorString" (.ptr (.agg [.lit (.string [98, 121, 116, 101, 115, 46, 66, 117, 102, 102, 101, 114, 58, 32, 116, 111, 111, 32, 108, 97, 114, 103, 101])]))

/-- 'laws.FnDNBack': WHATEVER THE INPUT: true; the input reads as it did. -/
def fnDNBackSpec : ChangeSpec := { name := "fnDNBack", fn := fun _ => fun
  | [d] => { results := [.lit (.bool true)], args := [d] }
  | _ => none }
def fnDNBackRow : OpenClaim := { program := "ytdacmcbipnnneaadoor", sum := "659ac436db0ddd8b4bd55606e341065d35a2eeaad5627178886ee64cfd0682d9", func := "pub-streamkeep/laws.FnDNBack", spec := "fnDNBack", unfollowed := true, recurses := true, named := ["bytes.ErrTooLarge"], apart := false, laid := [("bytes.ErrTooLarge", laid_bytes_ErrTooLarge)] }
def FnDNBackSaid : Prop := fnDNBackRow.holds Tryd.pinned (OpenSpec.ofChange fnDNBackSpec)

/-- ITS FALSE NEIGHBOUR: 'it returns false'. Refute it at one input. -/
def fnDNBackWrong : ChangeSpec := { name := "fnDNBack", fn := fun _ => fun
  | [d] => { results := [.lit (.bool false)], args := [d] }
  | _ => none }
def FnDNBackWrongFalsely : Prop := fnDNBackRow.holds Tryd.pinned (OpenSpec.ofChange fnDNBackWrong)

/-- 'laws.FnDNEqual': WHATEVER THE INPUT: true; the input reads as it did. -/
def fnDNEqualSpec : ChangeSpec := { name := "fnDNEqual", fn := fun _ => fun
  | [d1, d2] => { results := [.lit (.bool true)], args := [d1, d2] }
  | _ => none }
def fnDNEqualRow : OpenClaim := { program := "ytdacmcbipnnneaadoor", sum := "659ac436db0ddd8b4bd55606e341065d35a2eeaad5627178886ee64cfd0682d9", func := "pub-streamkeep/laws.FnDNEqual", spec := "fnDNEqual", unfollowed := true, recurses := true, named := ["bytes.ErrTooLarge"], apart := false, laid := [("bytes.ErrTooLarge", laid_bytes_ErrTooLarge)] }
def FnDNEqualSaid : Prop := fnDNEqualRow.holds Tryd.pinned (OpenSpec.ofChange fnDNEqualSpec)

/-- ITS FALSE NEIGHBOUR: 'it returns false'. Refute it at one input. -/
def fnDNEqualWrong : ChangeSpec := { name := "fnDNEqual", fn := fun _ => fun
  | [d1, d2] => { results := [.lit (.bool false)], args := [d1, d2] }
  | _ => none }
def FnDNEqualWrongFalsely : Prop := fnDNEqualRow.holds Tryd.pinned (OpenSpec.ofChange fnDNEqualWrong)

/-- 'laws.FnDNAbove': WHATEVER THE INPUT: true; the input reads as it did. -/
def fnDNAboveSpec : ChangeSpec := { name := "fnDNAbove", fn := fun _ => fun
  | [d1, d2] => { results := [.lit (.bool true)], args := [d1, d2] }
  | _ => none }
def fnDNAboveRow : OpenClaim := { program := "ytdacmcbipnnneaadoor", sum := "659ac436db0ddd8b4bd55606e341065d35a2eeaad5627178886ee64cfd0682d9", func := "pub-streamkeep/laws.FnDNAbove", spec := "fnDNAbove", unfollowed := true, recurses := true, named := ["bytes.ErrTooLarge"], apart := false, laid := [("bytes.ErrTooLarge", laid_bytes_ErrTooLarge)] }
def FnDNAboveSaid : Prop := fnDNAboveRow.holds Tryd.pinned (OpenSpec.ofChange fnDNAboveSpec)

/-- ITS FALSE NEIGHBOUR: 'it returns false'. Refute it at one input. -/
def fnDNAboveWrong : ChangeSpec := { name := "fnDNAbove", fn := fun _ => fun
  | [d1, d2] => { results := [.lit (.bool false)], args := [d1, d2] }
  | _ => none }
def FnDNAboveWrongFalsely : Prop := fnDNAboveRow.holds Tryd.pinned (OpenSpec.ofChange fnDNAboveWrong)

/-- 'laws.FnDNMatch': WHATEVER THE INPUT: true; the input reads as it did. -/
def fnDNMatchSpec : ChangeSpec := { name := "fnDNMatch", fn := fun _ => fun
  | [d1, d2] => { results := [.lit (.bool true)], args := [d1, d2] }
  | _ => none }
def fnDNMatchRow : OpenClaim := { program := "ytdacmcbipnnneaadoor", sum := "659ac436db0ddd8b4bd55606e341065d35a2eeaad5627178886ee64cfd0682d9", func := "pub-streamkeep/laws.FnDNMatch", spec := "fnDNMatch", unfollowed := true, recurses := true, named := ["bytes.ErrTooLarge"], apart := false, laid := [("bytes.ErrTooLarge", laid_bytes_ErrTooLarge)] }
def FnDNMatchSaid : Prop := fnDNMatchRow.holds Tryd.pinned (OpenSpec.ofChange fnDNMatchSpec)

/-- ITS FALSE NEIGHBOUR: 'it returns false'. Refute it at one input. -/
def fnDNMatchWrong : ChangeSpec := { name := "fnDNMatch", fn := fun _ => fun
  | [d1, d2] => { results := [.lit (.bool false)], args := [d1, d2] }
  | _ => none }
def FnDNMatchWrongFalsely : Prop := fnDNMatchRow.holds Tryd.pinned (OpenSpec.ofChange fnDNMatchWrong)

/- THE SECOND FORM. 'bulk': how many values and letters a reading holds, each counted each time it is reached (what is shared counts as often as it is met; a slice's spare places count too). A statement '..UptoSaid' is the law's where the arguments, and the package variables that the reading takes, are together of bulk at most 1048576: NARROWER than '..Said'. Prove '..Said' where nothing that the law and all that it calls make is longer than what came in: it says more and counts as full. Else prove '..UptoSaid'. A law counts once. -/
mutual
def uptoBulk {H : Type} : DataW H → Nat
  | .lit (.string bytes) => bytes.length + 1
  | .lit _ => 1
  | .nil => 1
  | .ptr d => uptoBulk d + 1
  | .slice elems spare => uptoBulkAll elems + uptoBulkAll spare + 1
  | .agg parts => uptoBulkAll parts + 1
  | .iface _ d => uptoBulk d + 1
  | .map entries => uptoBulkEntries entries + 1
  | .held _ => 1
def uptoBulkAll {H : Type} : List (DataW H) → Nat
  | [] => 0
  | d :: r => uptoBulk d + uptoBulkAll r
def uptoBulkEntries {H : Type} : List (Lit × DataW H) → Nat
  | [] => 0
  | x :: r => uptoBulkEntry x + uptoBulkEntries r
def uptoBulkEntry {H : Type} : Lit × DataW H → Nat
  | (.string bytes, d) => bytes.length + uptoBulk d + 1
  | (_, d) => uptoBulk d + 1
 end
def uptoSmall : (H : Type) → List (DataW H) → Bool := fun _ ds => decide (uptoBulkAll ds ≤ 1048576)
def OpenSpec.upto (s : _root_.Go.ChangeSpec) : _root_.Go.OpenSpec := { _root_.Go.OpenSpec.ofChange s with cond := some uptoSmall }

/-- 'laws.FnDNBack', WHERE WHAT IT READS IS OF BULK AT MOST 1048576: true; the input reads as it did. -/
def fnDNBackUptoRow : OpenClaim := { program := "ytdacmcbipnnneaadoor", sum := "659ac436db0ddd8b4bd55606e341065d35a2eeaad5627178886ee64cfd0682d9", func := "pub-streamkeep/laws.FnDNBack", spec := "fnDNBack", unfollowed := true, recurses := true, named := ["bytes.ErrTooLarge"], apart := false, laid := [("bytes.ErrTooLarge", laid_bytes_ErrTooLarge)], narrowed := true }
def FnDNBackUptoSaid : Prop := fnDNBackUptoRow.holds Tryd.pinned (OpenSpec.upto fnDNBackSpec)

/-- 'laws.FnDNEqual', WHERE WHAT IT READS IS OF BULK AT MOST 1048576: true; the input reads as it did. -/
def fnDNEqualUptoRow : OpenClaim := { program := "ytdacmcbipnnneaadoor", sum := "659ac436db0ddd8b4bd55606e341065d35a2eeaad5627178886ee64cfd0682d9", func := "pub-streamkeep/laws.FnDNEqual", spec := "fnDNEqual", unfollowed := true, recurses := true, named := ["bytes.ErrTooLarge"], apart := false, laid := [("bytes.ErrTooLarge", laid_bytes_ErrTooLarge)], narrowed := true }
def FnDNEqualUptoSaid : Prop := fnDNEqualUptoRow.holds Tryd.pinned (OpenSpec.upto fnDNEqualSpec)

/-- 'laws.FnDNAbove', WHERE WHAT IT READS IS OF BULK AT MOST 1048576: true; the input reads as it did. -/
def fnDNAboveUptoRow : OpenClaim := { program := "ytdacmcbipnnneaadoor", sum := "659ac436db0ddd8b4bd55606e341065d35a2eeaad5627178886ee64cfd0682d9", func := "pub-streamkeep/laws.FnDNAbove", spec := "fnDNAbove", unfollowed := true, recurses := true, named := ["bytes.ErrTooLarge"], apart := false, laid := [("bytes.ErrTooLarge", laid_bytes_ErrTooLarge)], narrowed := true }
def FnDNAboveUptoSaid : Prop := fnDNAboveUptoRow.holds Tryd.pinned (OpenSpec.upto fnDNAboveSpec)

/-- 'laws.FnDNMatch', WHERE WHAT IT READS IS OF BULK AT MOST 1048576: true; the input reads as it did. -/
def fnDNMatchUptoRow : OpenClaim := { program := "ytdacmcbipnnneaadoor", sum := "659ac436db0ddd8b4bd55606e341065d35a2eeaad5627178886ee64cfd0682d9", func := "pub-streamkeep/laws.FnDNMatch", spec := "fnDNMatch", unfollowed := true, recurses := true, named := ["bytes.ErrTooLarge"], apart := false, laid := [("bytes.ErrTooLarge", laid_bytes_ErrTooLarge)], narrowed := true }
def FnDNMatchUptoSaid : Prop := fnDNMatchUptoRow.holds Tryd.pinned (OpenSpec.upto fnDNMatchSpec)

end Rows
end Go.Proofs.YtdacmcbipnnneaaDoor
