import Derived.Test.YtlfcbbcdiecelaaGreatDoorZ09
namespace Go.Proofs.YtlfcbbcdiecelaaGreatDoor
open Go Go.Proofs.Tryz
set_option maxRecDepth 100000
set_option maxHeartbeats 4000000
set_option linter.all false
section
open Go.ChangeShapes Go.WideShapes Go.ChangeAt Go.RowKit
noncomputable def xP(os:Os):World:=World.laidAll prog os Rows.fnMethodSetUptoRow.laid
@[reducible]def Eh:Array Value:= #[.slice none 0 0,.agg #[.int .i64 0,.int .i64 0,.slice none 0 0,.slice none 0 0,.slice none 0 0,.slice none 0 0]]
theorem TH(os:Os)(args:Array Value):laidMetH prog Rows.fnMethodSetUptoRow.laid ((xP os).forCall (fun _ _=>0) ⟨#[],args,[]⟩).memory:=by
 rw[MakeChecks.laidMetH_plain _ _ _ (by kernel_rfl)];exact laidMet_laidAll _ (by kernel_rfl) (by kernel_rfl)
theorem TK(os:Os)(args:Array Value):((xP os).forCall (fun _ _=>0) ⟨#[],args,[]⟩).Shaped prog:=World.shaped_of_ZipB (by kernel_rfl) (by kernel_rfl)
theorem TJ(os:Os):Input.okWideB prog ((xP os).forCall (fun _ _=>0) ⟨#[],Eh,[]⟩) 4 ⟨#[],Eh,[]⟩=true:=by kernel_rfl
@[reducible]def Ei:Array Value:= #[.slice none 0 0,.agg #[.int .i64 0,.int .i64 0,.slice none 0 0,.slice none 0 0,.slice none 0 0,.slice none 0 0],.int .i64 0,.int .i64 0]
theorem TI(os:Os):Input.okWideB prog ((xP os).forCall (fun _ _=>0) ⟨#[],Ei,[]⟩) 3 ⟨#[],Ei,[]⟩=true:=by kernel_rfl
end
end Go.Proofs.YtlfcbbcdiecelaaGreatDoor
