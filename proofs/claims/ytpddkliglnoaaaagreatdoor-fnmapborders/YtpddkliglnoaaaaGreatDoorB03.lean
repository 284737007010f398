/- A part of the card of FnMapBorders. No further condition. -/
import Derived.Test.YtpddkliglnoaaaaGreatDoorA01
import Derived.Test.YtpddkliglnoaaaaGreatDoorCards
import Derived.Test.YtpddkliglnoaaaaGreatDoorTie
import Derived.WalkKit
import Derived.ProofKit
import Derived.OpenShut
import Derived.Deep.DeepHandedRow
import Derived.Stop.LaidErr
import Derived.LaidLaws
import Derived.Carry
set_option linter.all false
set_option autoImplicit true
set_option relaxedAutoImplicit true
namespace Go.Proofs.YtpddkliglnoaaaaGreatDoor
open Go.ChangeShapes Go.WideShapes Go.ChangeAt Go.RowKit Go.V
set_option maxRecDepth 100000 in
set_option maxHeartbeats 4000000 in
theorem c2:joinedFacts Tryz.checked.prog 3 Tryz.f3 (OpenSpec.ofChange Rows.fnMapBordersSpec).bare Rows.fnMapBordersRow=true:=by
 delta joinedFacts
 with_reducible repeat' (refine Bool.and_eq_true_iff.2 ⟨?_,?_⟩)
 all_goals decide+kernel
end Go.Proofs.YtpddkliglnoaaaaGreatDoor
