/-
  NARROWER THAN 'FOR EVERY INPUT', by the rows' own cells (each row's printed sentence says how): FnSetHardStateTouchesOnlyTheHardState: ifaces, laid · FnFirstIndexAgreesWithTerm: ifaces, laid.
  DERIVED. THE GIVEN ROWS OF THIS SEAT. 2 by the template 'for every input the law returns true; each argument reads behind the call as it read before'; 0 by the template 'total and deterministic' (their statements: Qxb6603498aDoorTotals.lean).
  GIVEN WITH THE SEED: the statements are not yours to turn. If you find one false, say at which input.
  Laid BY PROGRAM, IN A SANDBOX (cutbox-rows.mjs): the forced cells as the released guide's own fill.sh prints them over the translation 029344b908758579… (all of the seat's roots in one cut). By AI agents, Wed Nov 11 2026. No macro, syntax, notation, axiom, sorry.
-/
import Derived.Test.Qxb6603498aDoorChecked
import GoSem.Claim
import GoSem.ClaimJoined
import GoSem.ClaimMapViews
import Derived.JoinedTies
import Derived.KernelRfl
namespace Go.Proofs.Qxb6603498aDoor
/- THE CELL 'sum', in the pinned program and in every row, IS THE sha256 OF THE DUMP (.gsa) THAT Qxb6603498aDoorProg.lean LOADS. Nothing in Lean hashes anything: it is a label: what it is worth is what the hold of that sum in a sandbox is worth. -/
noncomputable def Tryd.pinned : Pinned := { name := "qxb6603498adoor", sum := "029344b9087585795a01d0c2ff4c1769148420661c1fd6b117c27b07fed01afe", checked := Tryd.checked }
namespace Rows
def none {H : Type} : Left H := { results := [], args := [] }

/- WHAT THE LISTED PACKAGE-LEVEL VARIABLES READ AS WHEN THE CALL BEGINS. Each datum BY PROGRAM (the guide's laid-datum.mjs) off the statement by which the dump's own 'gosem.cut.vars' lays the variable. In a bare row this is a premise. The card (Qxb6603498aDoorCards.lean) ties it to the program's text. -/
def laid_example_com_tidelog_tidelog_ErrUnavailable {H : Type} : DataW H := .iface "*errors.errorString" (.ptr (.agg [.lit (.string [116, 105, 100, 101, 108, 111, 103, 58, 32, 114, 101, 113, 117, 101, 115, 116, 101, 100, 32, 101, 110, 116, 114, 121, 32, 105, 115, 32, 110, 111, 116, 32, 105, 110, 32, 116, 104, 101, 32, 108, 111, 103])]))
def laid_example_com_tidelog_tidelog_ErrCompacted {H : Type} : DataW H := .iface "*errors.errorString" (.ptr (.agg [.lit (.string [116, 105, 100, 101, 108, 111, 103, 58, 32, 114, 101, 113, 117, 101, 115, 116, 101, 100, 32, 101, 110, 116, 114, 121, 32, 105, 115, 32, 99, 111, 109, 112, 97, 99, 116, 101, 100, 32, 97, 119, 97, 121])]))

/-- 'zzlaws_root_b1.FnSetHardStateTouchesOnlyTheHardState': WHATEVER THE INPUT: true; the input reads as it did. -/
def fnSetHardStateTouchesOnlyTheHardStateSpec : ChangeSpec := { name := "fnSetHardStateTouchesOnlyTheHardState", vars := ["example.com/tidelog/tidelog.ErrCompacted", "example.com/tidelog/tidelog.ErrUnavailable"], fn := fun _ => fun
  | [d1, d2, d3, d4, d5, d6, d7, d8, d9, g1, g2] => { results := [.lit (.bool true)], args := [d1, d2, d3, d4, d5, d6, d7, d8, d9], vars := [g1, g2] }
  | _ => none }
def fnSetHardStateTouchesOnlyTheHardStateRow : OpenClaim := { program := "qxb6603498adoor", sum := "029344b9087585795a01d0c2ff4c1769148420661c1fd6b117c27b07fed01afe", func := "example.com/tidelog/tidelog/zzlaws_root_b1.FnSetHardStateTouchesOnlyTheHardState", spec := "fnSetHardStateTouchesOnlyTheHardState", inPlace := ["(*internal/sync.Mutex).Lock", "internal/race.Disable", "sync/atomic.CompareAndSwapInt32", "internal/race.Enable", "internal/race.Acquire", "(*internal/sync.Mutex).lockSlow", "internal/sync.runtime_canSpin", "internal/sync.runtime_doSpin", "internal/sync.throw", "internal/sync.runtime_nanotime", "internal/sync.runtime_SemacquireMutex", "sync/atomic.AddInt32", "(*internal/sync.Mutex).Unlock", "internal/race.ReleaseMerge", "(*internal/sync.Mutex).unlockSlow", "internal/sync.fatal", "internal/sync.runtime_Semrelease"], named := ["example.com/tidelog/tidelog.ErrCompacted", "example.com/tidelog/tidelog.ErrUnavailable"], ifaces := true, apart := false, laid := [("example.com/tidelog/tidelog.ErrUnavailable", laid_example_com_tidelog_tidelog_ErrUnavailable), ("example.com/tidelog/tidelog.ErrCompacted", laid_example_com_tidelog_tidelog_ErrCompacted)] }
def FnSetHardStateTouchesOnlyTheHardStateSaid : Prop := fnSetHardStateTouchesOnlyTheHardStateRow.holds Tryd.pinned (OpenSpec.ofChange fnSetHardStateTouchesOnlyTheHardStateSpec)

/-- ITS FALSE NEIGHBOUR: 'it returns false'. Refute it at one input. -/
def fnSetHardStateTouchesOnlyTheHardStateWrong : ChangeSpec := { name := "fnSetHardStateTouchesOnlyTheHardState", vars := ["example.com/tidelog/tidelog.ErrCompacted", "example.com/tidelog/tidelog.ErrUnavailable"], fn := fun _ => fun
  | [d1, d2, d3, d4, d5, d6, d7, d8, d9, g1, g2] => { results := [.lit (.bool false)], args := [d1, d2, d3, d4, d5, d6, d7, d8, d9], vars := [g1, g2] }
  | _ => none }
def FnSetHardStateTouchesOnlyTheHardStateWrongFalsely : Prop := fnSetHardStateTouchesOnlyTheHardStateRow.holds Tryd.pinned (OpenSpec.ofChange fnSetHardStateTouchesOnlyTheHardStateWrong)

/-- 'zzlaws_root_b1.FnFirstIndexAgreesWithTerm': WHATEVER THE INPUT: true; the input reads as it did. -/
def fnFirstIndexAgreesWithTermSpec : ChangeSpec := { name := "fnFirstIndexAgreesWithTerm", vars := ["example.com/tidelog/tidelog.ErrCompacted", "example.com/tidelog/tidelog.ErrUnavailable"], fn := fun _ => fun
  | [d1, d2, d3, g1, g2] => { results := [.lit (.bool true)], args := [d1, d2, d3], vars := [g1, g2] }
  | _ => none }
def fnFirstIndexAgreesWithTermRow : OpenClaim := { program := "qxb6603498adoor", sum := "029344b9087585795a01d0c2ff4c1769148420661c1fd6b117c27b07fed01afe", func := "example.com/tidelog/tidelog/zzlaws_root_b1.FnFirstIndexAgreesWithTerm", spec := "fnFirstIndexAgreesWithTerm", inPlace := ["(*internal/sync.Mutex).Lock", "internal/race.Disable", "sync/atomic.CompareAndSwapInt32", "internal/race.Enable", "internal/race.Acquire", "(*internal/sync.Mutex).lockSlow", "internal/sync.runtime_canSpin", "internal/sync.runtime_doSpin", "internal/sync.throw", "internal/sync.runtime_nanotime", "internal/sync.runtime_SemacquireMutex", "sync/atomic.AddInt32", "(*internal/sync.Mutex).Unlock", "internal/race.ReleaseMerge", "(*internal/sync.Mutex).unlockSlow", "internal/sync.fatal", "internal/sync.runtime_Semrelease"], named := ["example.com/tidelog/tidelog.ErrCompacted", "example.com/tidelog/tidelog.ErrUnavailable"], ifaces := true, apart := false, laid := [("example.com/tidelog/tidelog.ErrUnavailable", laid_example_com_tidelog_tidelog_ErrUnavailable), ("example.com/tidelog/tidelog.ErrCompacted", laid_example_com_tidelog_tidelog_ErrCompacted)] }
def FnFirstIndexAgreesWithTermSaid : Prop := fnFirstIndexAgreesWithTermRow.holds Tryd.pinned (OpenSpec.ofChange fnFirstIndexAgreesWithTermSpec)

/-- ITS FALSE NEIGHBOUR: 'it returns false'. Refute it at one input. -/
def fnFirstIndexAgreesWithTermWrong : ChangeSpec := { name := "fnFirstIndexAgreesWithTerm", vars := ["example.com/tidelog/tidelog.ErrCompacted", "example.com/tidelog/tidelog.ErrUnavailable"], fn := fun _ => fun
  | [d1, d2, d3, g1, g2] => { results := [.lit (.bool false)], args := [d1, d2, d3], vars := [g1, g2] }
  | _ => none }
def FnFirstIndexAgreesWithTermWrongFalsely : Prop := fnFirstIndexAgreesWithTermRow.holds Tryd.pinned (OpenSpec.ofChange fnFirstIndexAgreesWithTermWrong)

end Rows
end Go.Proofs.Qxb6603498aDoor
