/- FnMapBorders returns true for every input that its row lets in, and leaves its arguments as they were (the card of the statement). No further condition. -/
import Derived.Test.YtpddkliglnoaaaaGreatDoorB04
import Derived.Test.YtpddkliglnoaaaaGreatDoorCards
import Derived.Test.YtpddkliglnoaaaaGreatDoorTie
import Derived.WalkKit
import Derived.ProofKit
import Derived.OpenShut
import Derived.Deep.DeepHandedRow
import Derived.Stop.LaidErr
import Derived.LaidLaws
import Derived.Carry
set_option linter.all false
set_option autoImplicit true
set_option relaxedAutoImplicit true
namespace Go.Proofs.YtpddkliglnoaaaaGreatDoor
open Go.ChangeShapes Go.WideShapes Go.ChangeAt Go.RowKit Go.V
theorem Ot {P:Program} (h:P.funcs.toList.all (λfn=>!fn.goes)=true) {c:OpenClaim} (hs:c.start= .entering):false=c.goesBy P:=by
 have h0:∀fn∈P.funcs,fn.goes=false:=λfn hf=>by
  have:=kD.1 h fn (Kc.2 hf);simpa using this
 have h1:∀g:Nat,(P.funcs[g]?).any Func.goes=false:=λg=>by
  cases e:P.funcs[g]? with
  |none=>rfl
  |some fn=>exact h0 fn (Array.mem_of_getElem? e)
 have h2:P.funcs.any Func.goes=false:=by
  rw[Array.any_eq_false];intro i hi;rw[h0 _ (Array.getElem_mem hi)];exact Bool.noConfusion
 have hP:∀f,P.goes f=false:=λf=>by
  unfold Program.goes;rw[h2,Bool.and_false,Pn];simp[h1]
 unfold OpenClaim.goesBy Program.goesAt Program.goesFrom;rw[hs];cases P.funcNamed c.func<;>simp[hP]
theorem FL:Tryz.prog.funcs.toList.all (λfn=>!fn.goes)=true:=by kernel_rfl
theorem Ll:false=Rows.fnMapBordersRow.goesBy Tryz.pinned.checked.prog:=Ot (P:=Tryz.prog) FL rfl
theorem adJ (f:FuncId) (fn:Func) (hf:Tryz.pinned.checked.prog.funcNamed "pub-eidograph/laws.FnMapBorders" =some f) (hfn:Tryz.pinned.checked.prog.funcs[f]? =some fn):
  true=Tryz.pinned.checked.prog.looks []/\∀(j:Nat) t,fn.params[j]? =some t->Tryz.pinned.checked.prog.wantsStandIn t=false:=by
 obtain rfl:f=3:=Option.some.inj ((show Tryz.prog.funcNamed "pub-eidograph/laws.FnMapBorders" =some 3 by kernel_rfl).symm.trans hf)|>.symm;obtain rfl:fn=Tryz.f3:=(iD (Tryz.func3.symm.trans hfn)).symm;refine⟨by kernel_rfl,λj t ht=>?_⟩;rw[Tryz.params3] at ht;have hm:t∈[3,22]:=by
  have:=Array.mem_of_getElem? ht;simp at this;simp;omega
 have hall:([3,22].all λu=>!Tryz.prog.wantsStandIn u)=true:=by kernel_rfl
 exact(show Tryz.prog.wantsStandIn t=false by simpa using List.all_eq_true.1 hall t hm)
theorem card:Rows.FnMapBordersCardSaid:=
 Claim7.holds_tied_plain_at .later [] _ _ _ _ acS (λ_ h=>by cases h) br (λ_ h=>by cases h) fnMapBorders_row_tie rfl ⟨rfl,rfl⟩ br rfl adJ Ll
end Go.Proofs.YtpddkliglnoaaaaGreatDoor
