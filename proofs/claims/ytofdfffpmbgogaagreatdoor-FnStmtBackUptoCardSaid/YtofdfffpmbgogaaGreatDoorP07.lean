import Derived.JoinedCond
import Derived.KernelRfl
import Derived.Test.YtofdfffpmbgogaaGreatDoorCards
/- Part of the proof. -/
set_option linter.all false
set_option maxRecDepth 100000
section
namespace Go.Proofs.YtofdfffpmbgogaaGreatDoor
open Go
theorem j0:(Rows.fnStmtBackUptoRow.wf (OpenSpec.ofChange (Rows.OpenSpec.upto Rows.fnStmtBackSpec).bare))=true:=by kernel_rfl
theorem j1:(laidOutB Tryz.pinned.checked.prog)=true:=by kernel_rfl
theorem j2:(mapsRowed Tryz.pinned.checked.prog)=true:=by kernel_rfl
theorem j3:(Tryz.f3.params.all (Tryz.pinned.checked.prog.readableRec ·))=true:=by kernel_rfl
theorem j4:(namedTie Tryz.pinned.checked.prog Rows.fnStmtBackUptoRow.named (Rows.OpenSpec.upto Rows.fnStmtBackSpec).bare.vars)=true:=by kernel_rfl
theorem j5:((Rows.fnStmtBackUptoRow.stops==[]))=true:=by kernel_rfl
theorem j6:((Tryz.pinned.checked.prog.stops==[]))=true:=by kernel_rfl
theorem j7:((Rows.fnStmtBackUptoRow.knobs==[]))=true:=by kernel_rfl
theorem j8:((Tryz.pinned.checked.prog.stopKnobs==[]))=true:=by kernel_rfl
theorem j9:((Rows.fnStmtBackUptoRow.inPlace==Tryz.pinned.checked.prog.inPlace 3))=true:=by kernel_rfl
theorem I9:((Rows.fnStmtBackUptoRow.unfollowed==Tryz.pinned.checked.prog.unfollowed 3))=true:=by kernel_rfl
theorem j11:((Rows.fnStmtBackUptoRow.recurses==Tryz.pinned.checked.prog.recurses 3))=true:=by kernel_rfl
theorem j12:((Rows.fnStmtBackUptoRow.named==Tryz.pinned.checked.prog.varsNamed 3))=true:=by kernel_rfl
theorem j13:((Rows.fnStmtBackUptoRow.maps==(Tryz.f3.params.toList++(Rows.OpenSpec.upto Rows.fnStmtBackSpec).bare.plain.varTypes Tryz.pinned.checked.prog).any (Tryz.pinned.checked.prog.mapsRec ·)))=true:=by kernel_rfl
theorem j14:((Rows.fnStmtBackUptoRow.ifaces==(Tryz.f3.params.toList++(Rows.OpenSpec.upto Rows.fnStmtBackSpec).bare.plain.varTypes Tryz.pinned.checked.prog).any (Tryz.pinned.checked.prog.ifacesRec ·)))=true:=by kernel_rfl
theorem j15:((Rows.fnStmtBackUptoRow.mapsOut==Tryz.pinned.checked.prog.mapsAmong Tryz.f3.resultTypes.toList))=true:=by kernel_rfl
theorem j16:((Rows.fnStmtBackUptoRow.loops==(Tryz.f3.params.toList++(Rows.OpenSpec.upto Rows.fnStmtBackSpec).bare.plain.varTypes Tryz.pinned.checked.prog).any (Tryz.pinned.checked.prog.loopsFrom ·)))=true:=by kernel_rfl
theorem Ja:((Rows.fnStmtBackUptoRow.wideKeys==(Tryz.f3.params.toList++(Rows.OpenSpec.upto Rows.fnStmtBackSpec).bare.plain.varTypes Tryz.pinned.checked.prog++Tryz.f3.resultTypes.toList).any (Tryz.pinned.checked.prog.wideKeysFrom ·)))=true:=by kernel_rfl
theorem qH:((Rows.OpenSpec.upto Rows.fnStmtBackSpec).bare.vars.all (Tryz.pinned.checked.prog.varReadable ·))=true:=by kernel_rfl
theorem j19:(Tryz.f3.resultTypes.all (fun t=>Tryz.pinned.checked.prog.readableRec t&&decide (t<Tryz.pinned.checked.prog.types.size)))=true:=by kernel_rfl
theorem j20:((Rows.fnStmtBackUptoRow.ifacesOut==Tryz.f3.resultTypes.toList.any (Tryz.pinned.checked.prog.ifacesRec ·)))=true:=by kernel_rfl
theorem j21:((Rows.fnStmtBackUptoRow.loopsOut==Tryz.f3.resultTypes.toList.any (Tryz.pinned.checked.prog.loopsFrom ·)))=true:=by kernel_rfl
theorem j22:((Rows.fnStmtBackUptoRow.plainKeys==Tryz.pinned.checked.prog.plainKeys))=true:=by kernel_rfl
theorem j23:(Rows.fnStmtBackUptoRow.shortTexts.isNone)=true:=by kernel_rfl
theorem j24:(Tryz.pinned.checked.prog.stopsHeard)=true:=by kernel_rfl
theorem j25:(Tryz.pinned.checked.prog.mayEnter)=true:=by kernel_rfl
theorem j26:((Rows.fnStmtBackUptoRow.lifted==Tryz.pinned.checked.prog.liftsFinal))=true:=by kernel_rfl
theorem j27:((Tryz.pinned.checked.prog.make==some Rows.fnStmtBackUptoRow.make))=true:=by kernel_rfl
theorem j28:((Rows.fnStmtBackUptoRow.kinds==(if Rows.fnStmtBackUptoRow.domain.isEmpty then[]else Tryz.f3.params.toList.map fun t=>match Tryz.pinned.checked.prog.underlying t with|some (.int k)=>some k|_=>none)))=true:=by kernel_rfl
theorem j29:((Rows.fnStmtBackUptoRow.pinned==Rows.fnStmtBackUptoRow.pinnedBy))=true:=by kernel_rfl
theorem j30:((Rows.fnStmtBackUptoRow.veiled==(Tryz.f3.params.toList++(Rows.OpenSpec.upto Rows.fnStmtBackSpec).bare.plain.varTypes Tryz.pinned.checked.prog++Tryz.f3.resultTypes.toList).any (Tryz.pinned.checked.prog.veiledRec ·)))=true:=by kernel_rfl
theorem j31:(Rows.fnStmtBackUptoRow.veiledFits Tryz.pinned.checked.prog Tryz.f3.params.toList (Tryz.f3.params.toList++(Rows.OpenSpec.upto Rows.fnStmtBackSpec).bare.plain.varTypes Tryz.pinned.checked.prog++Tryz.f3.resultTypes.toList))=true:=by kernel_rfl
theorem ahS:joinedFacts Tryz.pinned.checked.prog 3 Tryz.f3 (Rows.OpenSpec.upto Rows.fnStmtBackSpec).bare Rows.fnStmtBackUptoRow=true:=by
 unfold joinedFacts;simp only[Bool.and_eq_true];exact⟨⟨⟨⟨⟨⟨⟨⟨⟨⟨⟨⟨⟨⟨⟨⟨⟨⟨⟨⟨⟨⟨⟨⟨⟨⟨⟨⟨⟨⟨⟨j0,j1⟩,j2⟩,j3⟩,j4⟩,j5⟩,j6⟩,j7⟩,j8⟩,j9⟩,I9⟩,j11⟩,j12⟩,j13⟩,j14⟩,j15⟩,j16⟩,Ja⟩,qH⟩,j19⟩,j20⟩,j21⟩,j22⟩,j23⟩,j24⟩,j25⟩,j26⟩,j27⟩,j28⟩,j29⟩,j30⟩,j31⟩
end Go.Proofs.YtofdfffpmbgogaaGreatDoor
end
