/- A part of the card of FnMapBorders. No further condition. -/
import Derived.Test.YtpddkliglnoaaaaGreatDoorB01
import Derived.Test.YtpddkliglnoaaaaGreatDoorCards
import Derived.Test.YtpddkliglnoaaaaGreatDoorTie
import Derived.WalkKit
import Derived.ProofKit
import Derived.OpenShut
import Derived.Deep.DeepHandedRow
import Derived.Stop.LaidErr
import Derived.LaidLaws
import Derived.Carry
set_option linter.all false
set_option autoImplicit true
set_option relaxedAutoImplicit true
namespace Go.Proofs.YtpddkliglnoaaaaGreatDoor
open Go.ChangeShapes Go.WideShapes Go.ChangeAt Go.RowKit Go.V
abbrev abJ:ByteArray:={data:= #[115,116,111,112]}
noncomputable def S2:Nat:=(World.holding Tryz.prog default ⟨#[], #[],[]⟩).heap.size
noncomputable def Mz (os:Os):World:=
 let w0:=World.holding Tryz.prog os ⟨#[.cells #[.string abJ] 380], #[],[]⟩
 {w0 with heap:=w0.heap.modify 1 fun
   |.cells _ t frozen=> .cells #[.iface 378 (.pointer (some ⟨S2,0,none⟩))] t frozen
   |o=>o}
theorem af7 (os:Os) (args:Array Value):laidMet Tryz.prog Rows.fnMapBordersRow.laid ((Mz os).forCall (λ_ _=>0) ⟨#[],args,[]⟩).memory:=
 laidMet_of_run (ps:=[.cell 1 0,.cell S2 0]) 8 br br br
abbrev Gn:Array Value:= #[iv 0,iv 0,.slice none 0 0]
theorem adg (os:Os) {H:Type} (enc:TypeId×Value->H):∃places,DataW.whole enc Tryz.prog ((Mz os).forCall (λ_ _=>0) ⟨#[],Gn,[]⟩).memory Tryz.f3.params.toList Rows.fnMapBordersSpec.vars false Gn.toList 8=some ([.lit (.int .i64 0),.lit (.int .i64 0),.nil],[],places):=
 ⟨[],by kernel_rfl⟩
end Go.Proofs.YtpddkliglnoaaaaGreatDoor
