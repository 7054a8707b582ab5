/- A part of the proof of FnTextFirst: the row's facts. -/
import Derived.JoinedOf
import Derived.Test.YtkidgehblodbcaaGreatDoorRows
import Derived.Test.YtkidgehblodbcaaGreatDoorA00
set_option linter.all false
set_option maxRecDepth 100000
set_option maxHeartbeats 16000000
namespace Go.Proofs.YtkidgehblodbcaaGreatDoor
namespace En
open Go Go.Proofs.Tryz
theorem jf0:(Rows.fnTextFirstRow.wf (OpenSpec.ofChange Rows.fnTextFirstSpec))=true:=by kernel_rfl
theorem jf1:(laidOutB prog)=true:=by kernel_rfl
theorem jf2:(mapsRowed prog)=true:=by kernel_rfl
theorem jf3:(f3.params.all (prog.readableRec ·))=true:=by kernel_rfl
theorem jf4:(namedTie prog Rows.fnTextFirstRow.named Rows.fnTextFirstSpec.vars)=true:=by kernel_rfl
theorem jf5:((Rows.fnTextFirstRow.stops==[]))=true:=by kernel_rfl
theorem jf6:((prog.stops==[]))=true:=by kernel_rfl
theorem jf7:((Rows.fnTextFirstRow.knobs==[]))=true:=by kernel_rfl
theorem jf8:((prog.stopKnobs==[]))=true:=by kernel_rfl
theorem jf9:((Rows.fnTextFirstRow.inPlace==prog.inPlace 3))=true:=by kernel_rfl
theorem VEA:((Rows.fnTextFirstRow.unfollowed==prog.unfollowed 3))=true:=by kernel_rfl
theorem WEA:((Rows.fnTextFirstRow.recurses==prog.recurses 3))=true:=by kernel_rfl
theorem XEA:((Rows.fnTextFirstRow.named==prog.varsNamed 3))=true:=by kernel_rfl
theorem YEA:((Rows.fnTextFirstRow.maps==(f3.params.toList++Rows.fnTextFirstSpec.plain.varTypes prog).any (prog.mapsRec ·)))=true:=by kernel_rfl
theorem ZEA:((Rows.fnTextFirstRow.ifaces==(f3.params.toList++Rows.fnTextFirstSpec.plain.varTypes prog).any (prog.ifacesRec ·)))=true:=by kernel_rfl
theorem aEA:((Rows.fnTextFirstRow.mapsOut==prog.mapsAmong f3.resultTypes.toList))=true:=by kernel_rfl
theorem bEA:((Rows.fnTextFirstRow.loops==(f3.params.toList++Rows.fnTextFirstSpec.plain.varTypes prog).any (prog.loopsFrom ·)))=true:=by kernel_rfl
theorem cEA:((Rows.fnTextFirstRow.wideKeys==(f3.params.toList++Rows.fnTextFirstSpec.plain.varTypes prog++f3.resultTypes.toList).any (prog.wideKeysFrom ·)))=true:=by kernel_rfl
theorem dEA:(Rows.fnTextFirstSpec.vars.all (prog.varReadable ·))=true:=by kernel_rfl
theorem eEA:(f3.resultTypes.all (λt=>prog.readableRec t&&decide (t<prog.types.size)))=true:=by kernel_rfl
theorem fEA:((Rows.fnTextFirstRow.ifacesOut==f3.resultTypes.toList.any (prog.ifacesRec ·)))=true:=by kernel_rfl
theorem gEA:((Rows.fnTextFirstRow.loopsOut==f3.resultTypes.toList.any (prog.loopsFrom ·)))=true:=by kernel_rfl
theorem hEA:((Rows.fnTextFirstRow.plainKeys==prog.plainKeys))=true:=by kernel_rfl
theorem iEA:(Rows.fnTextFirstRow.shortTexts.isNone)=true:=by kernel_rfl
theorem jEA:(prog.stopsHeard)=true:=by kernel_rfl
theorem kEA:(prog.mayEnter)=true:=by kernel_rfl
theorem lEA:((Rows.fnTextFirstRow.lifted==prog.liftsFinal))=true:=by kernel_rfl
theorem mEA:((prog.make==some Rows.fnTextFirstRow.make))=true:=by kernel_rfl
theorem nEA:((Rows.fnTextFirstRow.kinds==(if Rows.fnTextFirstRow.domain.isEmpty then[]else f3.params.toList.map λt=>match prog.underlying t with|some (.int k)=>some k|_=>none)))=true:=by kernel_rfl
theorem oEA:((Rows.fnTextFirstRow.pinned==Rows.fnTextFirstRow.pinnedBy))=true:=by kernel_rfl
theorem pEA:((Rows.fnTextFirstRow.veiled==(f3.params.toList++Rows.fnTextFirstSpec.plain.varTypes prog++f3.resultTypes.toList).any (prog.veiledRec ·)))=true:=by kernel_rfl
theorem qEA:(Rows.fnTextFirstRow.veiledFits prog f3.params.toList (f3.params.toList++Rows.fnTextFirstSpec.plain.varTypes prog++f3.resultTypes.toList))=true:=by kernel_rfl
theorem uE {a b:Bool} (h:a=true) (k:b=true):(a&&b)=true:=by rw[h,k];rfl
theorem rEA:joinedFacts prog 3 f3 Rows.fnTextFirstSpec Rows.fnTextFirstRow=true:=
 uE (uE (uE (uE (uE (uE (uE (uE (uE (uE (uE (uE (uE (uE (uE (uE (uE (uE (uE (uE (uE (uE (uE (uE (uE (uE (uE (uE (uE (uE (uE jf0 jf1) jf2) jf3) jf4) jf5) jf6) jf7) jf8) jf9) VEA) WEA) XEA) YEA) ZEA) aEA) bEA) cEA) dEA) eEA) fEA) gEA) hEA) iEA) jEA) kEA) lEA) mEA) nEA) oEA) pEA) qEA
theorem inst3:f3.isInstance prog Rows.fnTextFirstRow.origin Rows.fnTextFirstRow.targs:=of_decide_eq_true (by kernel_rfl)
theorem wrap3:f3.isWrapper prog Rows.fnTextFirstRow.wrapper Rows.fnTextFirstRow.mainSum:=by unfold Func.isWrapper;first|(rw[if_pos (by decide +kernel)];kernel_rfl)|(rw[if_neg (by decide +kernel)];exact⟨rfl,rfl⟩)
theorem name3:prog.funcNamed "pub-hebdomad/laws.FnTextFirst" =some 3:=by kernel_rfl
end En
end Go.Proofs.YtkidgehblodbcaaGreatDoor
