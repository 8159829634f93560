/-
  NARROWER THAN 'FOR EVERY INPUT', by the rows' own cells (each row's printed sentence says how): FnUserLevelOwnProfileAndOtherUsers: maps · FnUserLevelGroupPlaceAgreesWithPreFilter: maps.
  DERIVED. THE GIVEN ROWS OF THIS SEAT. 2 by the template 'for every input the law returns true; each argument reads behind the call as it read before'; 0 by the template 'total and deterministic' (their statements: Qxb6621743aTotals.lean).
  GIVEN WITH THE SEED: the statements are not yours to turn. If you find one false, say at which input.
  Laid BY PROGRAM, IN A SANDBOX (cutbox-rows.mjs): the forced cells as the released guide's own fill.sh prints them over the translation 4923bc6e86043ffd… (all of the seat's roots in one cut). By AI agents, Wed Nov 11 2026. No macro, syntax, notation, axiom, sorry.
-/
import Derived.Test.Qxb6621743aChecked
import GoSem.Claim
import GoSem.ClaimJoined
import GoSem.ClaimMapViews
import Derived.JoinedTies
import Derived.KernelRfl
namespace Go.Proofs.Qxb6621743a
/- THE CELL 'sum', in the pinned program and in every row, IS THE sha256 OF THE DUMP (.gsa) THAT Qxb6621743aProg.lean LOADS. Nothing in Lean hashes anything: it is a label: what it is worth is what the hold of that sum in a sandbox is worth. -/
noncomputable def Try.pinned : Pinned := { name := "qxb6621743a", sum := "4923bc6e86043ffd342aff074eabd8cc683ee70289f32e98b35673df0f3a1793", checked := Try.checked }
namespace Rows
def none {H : Type} : Left H := { results := [], args := [] }

/-- 'zzlaws_root_b1.FnUserLevelOwnProfileAndOtherUsers': WHATEVER THE INPUT: true; the input reads as it did. -/
def fnUserLevelOwnProfileAndOtherUsersSpec : ChangeSpec := { name := "fnUserLevelOwnProfileAndOtherUsers", fn := fun _ => fun
  | [d1, d2, d3, d4, d5] => { results := [.lit (.bool true)], args := [d1, d2, d3, d4, d5] }
  | _ => none }
def fnUserLevelOwnProfileAndOtherUsersRow : OpenClaim := { program := "qxb6621743a", sum := "4923bc6e86043ffd342aff074eabd8cc683ee70289f32e98b35673df0f3a1793", func := "example.com/precedence/precedence/zzlaws_root_b1.FnUserLevelOwnProfileAndOtherUsers", spec := "fnUserLevelOwnProfileAndOtherUsers", maps := true, apart := false }
def FnUserLevelOwnProfileAndOtherUsersSaid : Prop := fnUserLevelOwnProfileAndOtherUsersRow.holds Try.pinned (OpenSpec.ofChange fnUserLevelOwnProfileAndOtherUsersSpec)

/-- ITS FALSE NEIGHBOUR: 'it returns false'. Refute it at one input. -/
def fnUserLevelOwnProfileAndOtherUsersWrong : ChangeSpec := { name := "fnUserLevelOwnProfileAndOtherUsers", fn := fun _ => fun
  | [d1, d2, d3, d4, d5] => { results := [.lit (.bool false)], args := [d1, d2, d3, d4, d5] }
  | _ => none }
def FnUserLevelOwnProfileAndOtherUsersWrongFalsely : Prop := fnUserLevelOwnProfileAndOtherUsersRow.holds Try.pinned (OpenSpec.ofChange fnUserLevelOwnProfileAndOtherUsersWrong)

/-- 'zzlaws_root_b1.FnUserLevelGroupPlaceAgreesWithPreFilter': WHATEVER THE INPUT: true; the input reads as it did. -/
def fnUserLevelGroupPlaceAgreesWithPreFilterSpec : ChangeSpec := { name := "fnUserLevelGroupPlaceAgreesWithPreFilter", fn := fun _ => fun
  | [d1, d2, d3, d4, d5] => { results := [.lit (.bool true)], args := [d1, d2, d3, d4, d5] }
  | _ => none }
def fnUserLevelGroupPlaceAgreesWithPreFilterRow : OpenClaim := { program := "qxb6621743a", sum := "4923bc6e86043ffd342aff074eabd8cc683ee70289f32e98b35673df0f3a1793", func := "example.com/precedence/precedence/zzlaws_root_b1.FnUserLevelGroupPlaceAgreesWithPreFilter", spec := "fnUserLevelGroupPlaceAgreesWithPreFilter", maps := true, apart := false }
def FnUserLevelGroupPlaceAgreesWithPreFilterSaid : Prop := fnUserLevelGroupPlaceAgreesWithPreFilterRow.holds Try.pinned (OpenSpec.ofChange fnUserLevelGroupPlaceAgreesWithPreFilterSpec)

/-- ITS FALSE NEIGHBOUR: 'it returns false'. Refute it at one input. -/
def fnUserLevelGroupPlaceAgreesWithPreFilterWrong : ChangeSpec := { name := "fnUserLevelGroupPlaceAgreesWithPreFilter", fn := fun _ => fun
  | [d1, d2, d3, d4, d5] => { results := [.lit (.bool false)], args := [d1, d2, d3, d4, d5] }
  | _ => none }
def FnUserLevelGroupPlaceAgreesWithPreFilterWrongFalsely : Prop := fnUserLevelGroupPlaceAgreesWithPreFilterRow.holds Try.pinned (OpenSpec.ofChange fnUserLevelGroupPlaceAgreesWithPreFilterWrong)

end Rows
end Go.Proofs.Qxb6621743a
