/-
  No cell of these rows narrows 'for every input' (looked for: loops, veiled, ifaces, maps, wideKeys, modest, calm, conditions, laid).
  DERIVED. THE GIVEN ROWS OF THIS SEAT. 4 by the template 'for every input the law returns true; each argument reads behind the call as it read before'; 0 by the template 'total and deterministic' (their statements: Qxb6600550aTotals.lean).
  GIVEN WITH THE SEED: the statements are not yours to turn. If you find one false, say at which input.
  Laid BY PROGRAM, IN A SANDBOX (cutbox-rows.mjs): the forced cells as the released guide's own fill.sh prints them over the translation 80c9326d70566e78… (all of the seat's roots in one cut). By AI agents, Wed Nov 11 2026. No macro, syntax, notation, axiom, sorry.
-/
import Derived.Test.Qxb6600550aChecked
import GoSem.Claim
import GoSem.ClaimJoined
import GoSem.ClaimMapViews
import Derived.JoinedTies
import Derived.KernelRfl
namespace Go.Proofs.Qxb6600550a
/- THE CELL 'sum', in the pinned program and in every row, IS THE sha256 OF THE DUMP (.gsa) THAT Qxb6600550aProg.lean LOADS. Nothing in Lean hashes anything: it is a label: what it is worth is what the hold of that sum in a sandbox is worth. -/
noncomputable def Try.pinned : Pinned := { name := "qxb6600550a", sum := "80c9326d70566e78a4c0059de967c0d73113e30a5ed07bfe55512723607de7c3", checked := Try.checked }
namespace Rows
def none {H : Type} : Left H := { results := [], args := [] }

/-- 'zzlaws_clause_b1.FnSortByRankIsStableDescending': WHATEVER THE INPUT: true; the input reads as it did. -/
def fnSortByRankIsStableDescendingSpec : ChangeSpec := { name := "fnSortByRankIsStableDescending", fn := fun _ => fun
  | [d1, d2] => { results := [.lit (.bool true)], args := [d1, d2] }
  | _ => none }
def fnSortByRankIsStableDescendingRow : OpenClaim := { program := "qxb6600550a", sum := "80c9326d70566e78a4c0059de967c0d73113e30a5ed07bfe55512723607de7c3", func := "example.com/clausevault/clausevault/zzlaws_clause_b1.FnSortByRankIsStableDescending", spec := "fnSortByRankIsStableDescending", apart := false }
def FnSortByRankIsStableDescendingSaid : Prop := fnSortByRankIsStableDescendingRow.holds Try.pinned (OpenSpec.ofChange fnSortByRankIsStableDescendingSpec)

/-- ITS FALSE NEIGHBOUR: 'it returns false'. Refute it at one input. -/
def fnSortByRankIsStableDescendingWrong : ChangeSpec := { name := "fnSortByRankIsStableDescending", fn := fun _ => fun
  | [d1, d2] => { results := [.lit (.bool false)], args := [d1, d2] }
  | _ => none }
def FnSortByRankIsStableDescendingWrongFalsely : Prop := fnSortByRankIsStableDescendingRow.holds Try.pinned (OpenSpec.ofChange fnSortByRankIsStableDescendingWrong)

/-- 'zzlaws_clause_b1.FnSortByRankRoomServesAgain': WHATEVER THE INPUT: true; the input reads as it did. -/
def fnSortByRankRoomServesAgainSpec : ChangeSpec := { name := "fnSortByRankRoomServesAgain", fn := fun _ => fun
  | [d1, d2] => { results := [.lit (.bool true)], args := [d1, d2] }
  | _ => none }
def fnSortByRankRoomServesAgainRow : OpenClaim := { program := "qxb6600550a", sum := "80c9326d70566e78a4c0059de967c0d73113e30a5ed07bfe55512723607de7c3", func := "example.com/clausevault/clausevault/zzlaws_clause_b1.FnSortByRankRoomServesAgain", spec := "fnSortByRankRoomServesAgain", apart := false }
def FnSortByRankRoomServesAgainSaid : Prop := fnSortByRankRoomServesAgainRow.holds Try.pinned (OpenSpec.ofChange fnSortByRankRoomServesAgainSpec)

/-- ITS FALSE NEIGHBOUR: 'it returns false'. Refute it at one input. -/
def fnSortByRankRoomServesAgainWrong : ChangeSpec := { name := "fnSortByRankRoomServesAgain", fn := fun _ => fun
  | [d1, d2] => { results := [.lit (.bool false)], args := [d1, d2] }
  | _ => none }
def FnSortByRankRoomServesAgainWrongFalsely : Prop := fnSortByRankRoomServesAgainRow.holds Try.pinned (OpenSpec.ofChange fnSortByRankRoomServesAgainWrong)

/-- 'zzlaws_clause_b1.FnIndexContentsIsGroupIndex': WHATEVER THE INPUT: true; the input reads as it did. -/
def fnIndexContentsIsGroupIndexSpec : ChangeSpec := { name := "fnIndexContentsIsGroupIndex", fn := fun _ => fun
  | [d] => { results := [.lit (.bool true)], args := [d] }
  | _ => none }
def fnIndexContentsIsGroupIndexRow : OpenClaim := { program := "qxb6600550a", sum := "80c9326d70566e78a4c0059de967c0d73113e30a5ed07bfe55512723607de7c3", func := "example.com/clausevault/clausevault/zzlaws_clause_b1.FnIndexContentsIsGroupIndex", spec := "fnIndexContentsIsGroupIndex", apart := false }
def FnIndexContentsIsGroupIndexSaid : Prop := fnIndexContentsIsGroupIndexRow.holds Try.pinned (OpenSpec.ofChange fnIndexContentsIsGroupIndexSpec)

/-- ITS FALSE NEIGHBOUR: 'it returns false'. Refute it at one input. -/
def fnIndexContentsIsGroupIndexWrong : ChangeSpec := { name := "fnIndexContentsIsGroupIndex", fn := fun _ => fun
  | [d] => { results := [.lit (.bool false)], args := [d] }
  | _ => none }
def FnIndexContentsIsGroupIndexWrongFalsely : Prop := fnIndexContentsIsGroupIndexRow.holds Try.pinned (OpenSpec.ofChange fnIndexContentsIsGroupIndexWrong)

/-- 'zzlaws_clause_b1.FnIndexContentsIgnoresGroupNumbers': WHATEVER THE INPUT: true; the input reads as it did. -/
def fnIndexContentsIgnoresGroupNumbersSpec : ChangeSpec := { name := "fnIndexContentsIgnoresGroupNumbers", fn := fun _ => fun
  | [d1, d2] => { results := [.lit (.bool true)], args := [d1, d2] }
  | _ => none }
def fnIndexContentsIgnoresGroupNumbersRow : OpenClaim := { program := "qxb6600550a", sum := "80c9326d70566e78a4c0059de967c0d73113e30a5ed07bfe55512723607de7c3", func := "example.com/clausevault/clausevault/zzlaws_clause_b1.FnIndexContentsIgnoresGroupNumbers", spec := "fnIndexContentsIgnoresGroupNumbers", apart := false }
def FnIndexContentsIgnoresGroupNumbersSaid : Prop := fnIndexContentsIgnoresGroupNumbersRow.holds Try.pinned (OpenSpec.ofChange fnIndexContentsIgnoresGroupNumbersSpec)

/-- ITS FALSE NEIGHBOUR: 'it returns false'. Refute it at one input. -/
def fnIndexContentsIgnoresGroupNumbersWrong : ChangeSpec := { name := "fnIndexContentsIgnoresGroupNumbers", fn := fun _ => fun
  | [d1, d2] => { results := [.lit (.bool false)], args := [d1, d2] }
  | _ => none }
def FnIndexContentsIgnoresGroupNumbersWrongFalsely : Prop := fnIndexContentsIgnoresGroupNumbersRow.holds Try.pinned (OpenSpec.ofChange fnIndexContentsIgnoresGroupNumbersWrong)

end Rows
end Go.Proofs.Qxb6600550a
