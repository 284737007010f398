/- A part of the card of FnMapBorders. No further condition. -/
import Derived.Test.YtpddkliglnoaaaaGreatDoorB02
import Derived.Test.YtpddkliglnoaaaaGreatDoorB03
import Derived.Test.YtpddkliglnoaaaaGreatDoorCards
import Derived.Test.YtpddkliglnoaaaaGreatDoorTie
import Derived.WalkKit
import Derived.ProofKit
import Derived.OpenShut
import Derived.Deep.DeepHandedRow
import Derived.Stop.LaidErr
import Derived.LaidLaws
import Derived.Carry
set_option linter.all false
set_option autoImplicit true
set_option relaxedAutoImplicit true
namespace Go.Proofs.YtpddkliglnoaaaaGreatDoor
open Go.ChangeShapes Go.WideShapes Go.ChangeAt Go.RowKit Go.V
set_option maxRecDepth 100000 in
theorem afD (os:Os) (started:os.Started) (H:Type) (enc:TypeId×Value->H) (F:Stop.Interp):
  ReturnsInHanded {} Tryz.checked os 3 .any ((OpenSpec.ofChange Rows.fnMapBordersSpec).preRow enc Tryz.prog Tryz.f3 Rows.fnMapBordersRow.domain false Rows.fnMapBordersRow.laid) (((OpenSpec.ofChange Rows.fnMapBordersSpec).at F).post enc Tryz.prog Tryz.f3 false true false false):=by
 obtain⟨places,hx⟩:=adg os enc;refine returnsInHanded_of_row (C:=Tryz.checked) (s:=OpenSpec.ofChange Rows.fnMapBordersSpec) own started br Tryz.func3
  (witness_row_at (enc:=enc) (C:=Tryz.checked) false (Mz os) Gn rfl br br br
   (OpenSpec.preRow_of_cond 8 hx br (λk hk=>by cases hk) br (af7 os Gn))) ?_
 intro W base args ds gs before hval hW _ _ _ hL _ _;exact akm H enc W base args ds gs before hval hW hL
theorem c1:Tryz.checked.prog.funcNamed Rows.fnMapBordersRow.func=some 3:=by kernel_rfl
theorem c3:Tryz.f3.isInstance Tryz.checked.prog Rows.fnMapBordersRow.origin Rows.fnMapBordersRow.targs:=of_decide_eq_true br
theorem c4:Tryz.f3.isWrapper Tryz.checked.prog Rows.fnMapBordersRow.wrapper Rows.fnMapBordersRow.mainSum:=by unfold Func.isWrapper;first|(rw[if_pos (by decide+kernel)];kernel_rfl)|(rw[if_neg (by decide+kernel)];exact⟨rfl,rfl⟩)
theorem acS:Rows.FnMapBordersSaid:=
 OpenClaim.holds_of_cond 3 Tryz.f3 rfl rfl rfl rfl rfl rfl rfl ⟨rfl,rfl,rfl,rfl,rfl⟩ rfl rfl rfl rfl rfl c1 Tryz.func3 c2 c3 c4
  (λos started H enc _ F=>by rw[OpenClaim.pre_eq_preRow];exact afD os started H enc F)
end Go.Proofs.YtpddkliglnoaaaaGreatDoor
