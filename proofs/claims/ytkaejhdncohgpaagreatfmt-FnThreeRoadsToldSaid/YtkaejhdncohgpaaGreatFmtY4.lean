/- The closed facts of the card of 'FnThreeRoads', one by one. -/
import Derived.Test.YtkaejhdncohgpaaGreatFmtCards
import Derived.Test.YtkaejhdncohgpaaGreatFmtTie
import Derived.SevenTiedAt
namespace Go.Proofs.YtkaejhdncohgpaaGreatFmt
set_option maxRecDepth 100000

theorem n4_wf : Rows.fnThreeRoadsRow.wfByText (OpenSpec.ofChange Rows.fnThreeRoadsSpec) = true := by kernel_rfl
theorem n4_mr : mapsRowed Tryz.pinned.checked.prog = true := by kernel_rfl
theorem n4_nt : namedTie Tryz.pinned.checked.prog Rows.fnThreeRoadsRow.namedList (OpenSpec.ofChange Rows.fnThreeRoadsSpec).vars = true := by kernel_rfl
theorem n4_fn : Tryz.pinned.checked.prog.funcNamed Rows.fnThreeRoadsRow.func = some 6 := by kernel_rfl
theorem n4_rd : (Tryz.f6.params.toList.all fun t => Tryz.pinned.checked.prog.readableRec t) = true := by kernel_rfl
theorem n4_is : Tryz.f6.isInstance Tryz.pinned.checked.prog Rows.fnThreeRoadsRow.origin Rows.fnThreeRoadsRow.targs := of_decide_eq_true (by kernel_rfl)
theorem n4_wr : Tryz.f6.isWrapper Tryz.pinned.checked.prog Rows.fnThreeRoadsRow.wrapper Rows.fnThreeRoadsRow.mainSum := of_decide_eq_true (by kernel_rfl)
theorem n4_wo : Tryz.pinned.checked.prog.envWorded = true := by kernel_rfl
theorem n4_ip : Rows.fnThreeRoadsRow.inPlace = Tryz.pinned.checked.prog.inPlace 6 := by kernel_rfl
theorem n4_uf : Rows.fnThreeRoadsRow.unfollowed = Tryz.pinned.checked.prog.unfollowed 6 := by kernel_rfl
theorem n4_rc : Rows.fnThreeRoadsRow.recurses = Tryz.pinned.checked.prog.recurses 6 := by kernel_rfl
theorem n4_vn : Rows.fnThreeRoadsRow.named = Tryz.pinned.checked.prog.varsNamed 6 := by kernel_rfl
theorem n4_mp : Rows.fnThreeRoadsRow.maps = (Tryz.f6.params.toList ++ (OpenSpec.ofChange Rows.fnThreeRoadsSpec).bare.plain.varTypes Tryz.pinned.checked.prog).any (Tryz.pinned.checked.prog.mapsRec ·) := by kernel_rfl
theorem n4_fc : Rows.fnThreeRoadsRow.ifaces = (Tryz.f6.params.toList ++ (OpenSpec.ofChange Rows.fnThreeRoadsSpec).bare.plain.varTypes Tryz.pinned.checked.prog).any (Tryz.pinned.checked.prog.ifacesRec ·) := by kernel_rfl
theorem n4_mo : Rows.fnThreeRoadsRow.mapsOut = Tryz.pinned.checked.prog.mapsAmong Tryz.f6.resultTypes.toList := by kernel_rfl
theorem n4_lo : Rows.fnThreeRoadsRow.loops = (Tryz.f6.params.toList ++ (OpenSpec.ofChange Rows.fnThreeRoadsSpec).bare.plain.varTypes Tryz.pinned.checked.prog).any (Tryz.pinned.checked.prog.loopsFrom ·) := by kernel_rfl
theorem n4_wk : Rows.fnThreeRoadsRow.wideKeys = (Tryz.f6.params.toList ++ (OpenSpec.ofChange Rows.fnThreeRoadsSpec).bare.plain.varTypes Tryz.pinned.checked.prog ++ Tryz.f6.resultTypes.toList).any (Tryz.pinned.checked.prog.wideKeysFrom ·) := by kernel_rfl
theorem n4_vr : ((OpenSpec.ofChange Rows.fnThreeRoadsSpec).vars.all fun n => Tryz.pinned.checked.prog.varReadable n) = true := by kernel_rfl
theorem n4_mi : Tryz.pinned.checked.prog.mainIs = some (true, "6339c1c16f402ab53fb6b76672e9eddb9c3082f0c234fcf8ee9fc8a0f75a1b04".toList) := by kernel_rfl
theorem n4_lk : true = Tryz.pinned.checked.prog.looks [] := by kernel_rfl
theorem n4_ws : (Tryz.f6.params.toList.all fun t => !Tryz.pinned.checked.prog.wantsStandIn t) = true := by kernel_rfl
theorem n4_af : Stop.anyFmt Rows.fnThreeRoadsRow.stops = true := by decide
theorem n4_go : false = Rows.fnThreeRoadsRow.goesBy Tryz.pinned.checked.prog := by kernel_rfl
theorem n4_vl : Rows.fnThreeRoadsRow.veiled = (Tryz.f6.params.toList ++ (OpenSpec.ofChange Rows.fnThreeRoadsSpec).bare.plain.varTypes Tryz.pinned.checked.prog ++ Tryz.f6.resultTypes.toList).any (Tryz.pinned.checked.prog.veiledRec ·) := by kernel_rfl
theorem n4_vf : Rows.fnThreeRoadsRow.veiledFits Tryz.pinned.checked.prog Tryz.f6.params.toList (Tryz.f6.params.toList ++ (OpenSpec.ofChange Rows.fnThreeRoadsSpec).bare.plain.varTypes Tryz.pinned.checked.prog ++ Tryz.f6.resultTypes.toList) = true := by kernel_rfl
theorem n4_m1 : Tryz.pinned.checked.prog.mayEnter = true := by kernel_rfl
theorem n4_m2 : (Tryz.f6.resultTypes.toList.all fun t => Tryz.pinned.checked.prog.readableRec t && decide (t < Tryz.pinned.checked.prog.types.size)) = true := by kernel_rfl
theorem n4_m3 : Tryz.pinned.checked.prog.stopsHeard = true := by kernel_rfl
theorem n4_m4 : Rows.fnThreeRoadsRow.ifacesOut = Tryz.f6.resultTypes.toList.any (Tryz.pinned.checked.prog.ifacesRec ·) := by kernel_rfl
theorem n4_m5 : Rows.fnThreeRoadsRow.loopsOut = Tryz.f6.resultTypes.toList.any (Tryz.pinned.checked.prog.loopsFrom ·) := by kernel_rfl
theorem n4_m7 : Rows.fnThreeRoadsRow.pinned = Rows.fnThreeRoadsRow.pinnedBy := by kernel_rfl
theorem n4_m8 : Rows.fnThreeRoadsRow.plainKeys = Tryz.pinned.checked.prog.plainKeys := by kernel_rfl
theorem n4_m9 : Rows.fnThreeRoadsRow.lifted = Tryz.pinned.checked.prog.liftsFinal := by kernel_rfl
theorem n4_m0 : Tryz.pinned.checked.prog.make = some Rows.fnThreeRoadsRow.make := by kernel_rfl
theorem n4_m6 : Rows.fnThreeRoadsRow.kinds = (if Rows.fnThreeRoadsRow.domain.isEmpty then [] else Tryz.f6.params.toList.map fun t => match Tryz.pinned.checked.prog.underlying t with | some (.int k) => some k | _ => none) := by kernel_rfl
end Go.Proofs.YtkaejhdncohgpaaGreatFmt
