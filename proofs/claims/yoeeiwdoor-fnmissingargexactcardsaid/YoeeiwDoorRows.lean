/-
  NARROWER THAN 'FOR EVERY INPUT', by the rows' own cells (each row's printed sentence says how): FnBadArgNumExact: ifaces, laid · FnBadArgNumInjective: ifaces, laid · FnMissingArgExact: ifaces, laid.
  DERIVED. THE GIVEN ROWS OF THIS SEAT. 3 by the template 'for every input the law returns true; each argument reads behind the call as it read before'; 0 by the template 'total and deterministic' (their statements: YoeeiwDoorTotals.lean).
  GIVEN WITH THE SEED: the statements are not yours to turn. If you find one false, say at which input.
  Laid BY PROGRAM, IN A SANDBOX (cutbox-rows.mjs): the forced cells as the released guide's own fill.sh prints them over the translation 170ceb4172495284… (all of the seat's roots in one cut). By AI agents, Wed Nov 11 2026. No macro, syntax, notation, axiom, sorry.
-/
import Derived.Test.YoeeiwDoorChecked
import GoSem.Claim
import GoSem.ClaimJoined
import GoSem.ClaimMapViews
import Derived.JoinedTies
import Derived.KernelRfl
namespace Go.Proofs.YoeeiwDoor
/- THE CELL 'sum', in the pinned program and in every row, IS THE sha256 OF THE DUMP (.gsa) THAT YoeeiwDoorProg.lean LOADS. Nothing in Lean hashes anything: it is a label: what it is worth is what the hold of that sum in a sandbox is worth. -/
noncomputable def Eeig.pinned : Pinned := { name := "yoeeiwdoor", sum := "170ceb417249528458161490bc7bd4890cc43e66acfbf915b029b5874361e138", checked := Eeig.checked }
namespace Rows
def none {H : Type} : Left H := { results := [], args := [] }

/- WHAT THE LISTED PACKAGE-LEVEL VARIABLES READ AS WHEN THE CALL BEGINS. Each datum BY PROGRAM (the guide's laid-datum.mjs) off the statement by which the dump's own 'gosem.cut.vars' lays the variable. In a bare row this is a premise. The card (YoeeiwDoorCards.lean) ties it to the program's text. -/
def laid_github_com_d5_tengo_v2_ErrStringLimit {H : Type} : DataW H := .iface "*errors.errorString" (.ptr (.agg [.lit (.string [101, 120, 99, 101, 101, 100, 105, 110, 103, 32, 115, 116, 114, 105, 110, 103, 32, 115, 105, 122, 101, 32, 108, 105, 109, 105, 116])]))
def laid_github_com_d5_tengo_v2_MaxStringLen {H : Type} : DataW H := .lit (.int .i64 2147483647)

/-- 'zzlaws_root_b3.FnBadArgNumExact': WHATEVER THE INPUT: true; the input reads as it did. -/
def fnBadArgNumExactSpec : ChangeSpec := { name := "fnBadArgNumExact", vars := ["github.com/d5/tengo/v2.MaxStringLen", "github.com/d5/tengo/v2.ErrStringLimit"], fn := fun _ => fun
  | [d, g1, g2] => { results := [.lit (.bool true)], args := [d], vars := [g1, g2] }
  | _ => none }
def fnBadArgNumExactRow : OpenClaim := { program := "yoeeiwdoor", sum := "170ceb417249528458161490bc7bd4890cc43e66acfbf915b029b5874361e138", func := "github.com/d5/tengo/v2/zzlaws_root_b3.FnBadArgNumExact", spec := "fnBadArgNumExact", named := ["github.com/d5/tengo/v2.MaxStringLen", "github.com/d5/tengo/v2.ErrStringLimit"], ifaces := true, apart := false, laid := [("github.com/d5/tengo/v2.ErrStringLimit", laid_github_com_d5_tengo_v2_ErrStringLimit), ("github.com/d5/tengo/v2.MaxStringLen", laid_github_com_d5_tengo_v2_MaxStringLen)] }
def FnBadArgNumExactSaid : Prop := fnBadArgNumExactRow.holds Eeig.pinned (OpenSpec.ofChange fnBadArgNumExactSpec)

/-- ITS FALSE NEIGHBOUR: 'it returns false'. Refute it at one input. -/
def fnBadArgNumExactWrong : ChangeSpec := { name := "fnBadArgNumExact", vars := ["github.com/d5/tengo/v2.MaxStringLen", "github.com/d5/tengo/v2.ErrStringLimit"], fn := fun _ => fun
  | [d, g1, g2] => { results := [.lit (.bool false)], args := [d], vars := [g1, g2] }
  | _ => none }
def FnBadArgNumExactWrongFalsely : Prop := fnBadArgNumExactRow.holds Eeig.pinned (OpenSpec.ofChange fnBadArgNumExactWrong)

/-- 'zzlaws_root_b3.FnBadArgNumInjective': WHATEVER THE INPUT: true; the input reads as it did. -/
def fnBadArgNumInjectiveSpec : ChangeSpec := { name := "fnBadArgNumInjective", vars := ["github.com/d5/tengo/v2.MaxStringLen", "github.com/d5/tengo/v2.ErrStringLimit"], fn := fun _ => fun
  | [d1, d2, g1, g2] => { results := [.lit (.bool true)], args := [d1, d2], vars := [g1, g2] }
  | _ => none }
def fnBadArgNumInjectiveRow : OpenClaim := { program := "yoeeiwdoor", sum := "170ceb417249528458161490bc7bd4890cc43e66acfbf915b029b5874361e138", func := "github.com/d5/tengo/v2/zzlaws_root_b3.FnBadArgNumInjective", spec := "fnBadArgNumInjective", named := ["github.com/d5/tengo/v2.MaxStringLen", "github.com/d5/tengo/v2.ErrStringLimit"], ifaces := true, apart := false, laid := [("github.com/d5/tengo/v2.ErrStringLimit", laid_github_com_d5_tengo_v2_ErrStringLimit), ("github.com/d5/tengo/v2.MaxStringLen", laid_github_com_d5_tengo_v2_MaxStringLen)] }
def FnBadArgNumInjectiveSaid : Prop := fnBadArgNumInjectiveRow.holds Eeig.pinned (OpenSpec.ofChange fnBadArgNumInjectiveSpec)

/-- ITS FALSE NEIGHBOUR: 'it returns false'. Refute it at one input. -/
def fnBadArgNumInjectiveWrong : ChangeSpec := { name := "fnBadArgNumInjective", vars := ["github.com/d5/tengo/v2.MaxStringLen", "github.com/d5/tengo/v2.ErrStringLimit"], fn := fun _ => fun
  | [d1, d2, g1, g2] => { results := [.lit (.bool false)], args := [d1, d2], vars := [g1, g2] }
  | _ => none }
def FnBadArgNumInjectiveWrongFalsely : Prop := fnBadArgNumInjectiveRow.holds Eeig.pinned (OpenSpec.ofChange fnBadArgNumInjectiveWrong)

/-- 'zzlaws_root_b3.FnMissingArgExact': WHATEVER THE INPUT: true; the input reads as it did. -/
def fnMissingArgExactSpec : ChangeSpec := { name := "fnMissingArgExact", vars := ["github.com/d5/tengo/v2.MaxStringLen", "github.com/d5/tengo/v2.ErrStringLimit"], fn := fun _ => fun
  | [d, g1, g2] => { results := [.lit (.bool true)], args := [d], vars := [g1, g2] }
  | _ => none }
def fnMissingArgExactRow : OpenClaim := { program := "yoeeiwdoor", sum := "170ceb417249528458161490bc7bd4890cc43e66acfbf915b029b5874361e138", func := "github.com/d5/tengo/v2/zzlaws_root_b3.FnMissingArgExact", spec := "fnMissingArgExact", named := ["github.com/d5/tengo/v2.MaxStringLen", "github.com/d5/tengo/v2.ErrStringLimit"], ifaces := true, apart := false, laid := [("github.com/d5/tengo/v2.ErrStringLimit", laid_github_com_d5_tengo_v2_ErrStringLimit), ("github.com/d5/tengo/v2.MaxStringLen", laid_github_com_d5_tengo_v2_MaxStringLen)] }
def FnMissingArgExactSaid : Prop := fnMissingArgExactRow.holds Eeig.pinned (OpenSpec.ofChange fnMissingArgExactSpec)

/-- ITS FALSE NEIGHBOUR: 'it returns false'. Refute it at one input. -/
def fnMissingArgExactWrong : ChangeSpec := { name := "fnMissingArgExact", vars := ["github.com/d5/tengo/v2.MaxStringLen", "github.com/d5/tengo/v2.ErrStringLimit"], fn := fun _ => fun
  | [d, g1, g2] => { results := [.lit (.bool false)], args := [d], vars := [g1, g2] }
  | _ => none }
def FnMissingArgExactWrongFalsely : Prop := fnMissingArgExactRow.holds Eeig.pinned (OpenSpec.ofChange fnMissingArgExactWrong)

end Rows
end Go.Proofs.YoeeiwDoor
