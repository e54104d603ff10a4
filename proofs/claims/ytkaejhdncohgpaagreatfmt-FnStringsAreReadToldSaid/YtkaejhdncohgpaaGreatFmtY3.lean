/- The closed facts of the card of 'FnStringsAreRead', one by one. -/
import Derived.Test.YtkaejhdncohgpaaGreatFmtCards
import Derived.Test.YtkaejhdncohgpaaGreatFmtTie
import Derived.SevenTiedAt
namespace Go.Proofs.YtkaejhdncohgpaaGreatFmt
set_option maxRecDepth 100000

theorem n3_wf : Rows.fnStringsAreReadRow.wfByText (OpenSpec.ofChange Rows.fnStringsAreReadSpec) = true := by kernel_rfl
theorem n3_mr : mapsRowed Tryz.pinned.checked.prog = true := by kernel_rfl
theorem n3_nt : namedTie Tryz.pinned.checked.prog Rows.fnStringsAreReadRow.namedList (OpenSpec.ofChange Rows.fnStringsAreReadSpec).vars = true := by kernel_rfl
theorem n3_fn : Tryz.pinned.checked.prog.funcNamed Rows.fnStringsAreReadRow.func = some 5 := by kernel_rfl
theorem n3_rd : (Tryz.f5.params.toList.all fun t => Tryz.pinned.checked.prog.readableRec t) = true := by kernel_rfl
theorem n3_is : Tryz.f5.isInstance Tryz.pinned.checked.prog Rows.fnStringsAreReadRow.origin Rows.fnStringsAreReadRow.targs := of_decide_eq_true (by kernel_rfl)
theorem n3_wr : Tryz.f5.isWrapper Tryz.pinned.checked.prog Rows.fnStringsAreReadRow.wrapper Rows.fnStringsAreReadRow.mainSum := of_decide_eq_true (by kernel_rfl)
theorem n3_wo : Tryz.pinned.checked.prog.envWorded = true := by kernel_rfl
theorem n3_ip : Rows.fnStringsAreReadRow.inPlace = Tryz.pinned.checked.prog.inPlace 5 := by kernel_rfl
theorem n3_uf : Rows.fnStringsAreReadRow.unfollowed = Tryz.pinned.checked.prog.unfollowed 5 := by kernel_rfl
theorem n3_rc : Rows.fnStringsAreReadRow.recurses = Tryz.pinned.checked.prog.recurses 5 := by kernel_rfl
theorem n3_vn : Rows.fnStringsAreReadRow.named = Tryz.pinned.checked.prog.varsNamed 5 := by kernel_rfl
theorem n3_mp : Rows.fnStringsAreReadRow.maps = (Tryz.f5.params.toList ++ (OpenSpec.ofChange Rows.fnStringsAreReadSpec).bare.plain.varTypes Tryz.pinned.checked.prog).any (Tryz.pinned.checked.prog.mapsRec ·) := by kernel_rfl
theorem n3_fc : Rows.fnStringsAreReadRow.ifaces = (Tryz.f5.params.toList ++ (OpenSpec.ofChange Rows.fnStringsAreReadSpec).bare.plain.varTypes Tryz.pinned.checked.prog).any (Tryz.pinned.checked.prog.ifacesRec ·) := by kernel_rfl
theorem n3_mo : Rows.fnStringsAreReadRow.mapsOut = Tryz.pinned.checked.prog.mapsAmong Tryz.f5.resultTypes.toList := by kernel_rfl
theorem n3_lo : Rows.fnStringsAreReadRow.loops = (Tryz.f5.params.toList ++ (OpenSpec.ofChange Rows.fnStringsAreReadSpec).bare.plain.varTypes Tryz.pinned.checked.prog).any (Tryz.pinned.checked.prog.loopsFrom ·) := by kernel_rfl
theorem n3_wk : Rows.fnStringsAreReadRow.wideKeys = (Tryz.f5.params.toList ++ (OpenSpec.ofChange Rows.fnStringsAreReadSpec).bare.plain.varTypes Tryz.pinned.checked.prog ++ Tryz.f5.resultTypes.toList).any (Tryz.pinned.checked.prog.wideKeysFrom ·) := by kernel_rfl
theorem n3_vr : ((OpenSpec.ofChange Rows.fnStringsAreReadSpec).vars.all fun n => Tryz.pinned.checked.prog.varReadable n) = true := by kernel_rfl
theorem n3_mi : Tryz.pinned.checked.prog.mainIs = some (true, "6339c1c16f402ab53fb6b76672e9eddb9c3082f0c234fcf8ee9fc8a0f75a1b04".toList) := by kernel_rfl
theorem n3_lk : true = Tryz.pinned.checked.prog.looks [] := by kernel_rfl
theorem n3_ws : (Tryz.f5.params.toList.all fun t => !Tryz.pinned.checked.prog.wantsStandIn t) = true := by kernel_rfl
theorem n3_af : Stop.anyFmt Rows.fnStringsAreReadRow.stops = true := by decide
theorem n3_go : false = Rows.fnStringsAreReadRow.goesBy Tryz.pinned.checked.prog := by kernel_rfl
theorem n3_vl : Rows.fnStringsAreReadRow.veiled = (Tryz.f5.params.toList ++ (OpenSpec.ofChange Rows.fnStringsAreReadSpec).bare.plain.varTypes Tryz.pinned.checked.prog ++ Tryz.f5.resultTypes.toList).any (Tryz.pinned.checked.prog.veiledRec ·) := by kernel_rfl
theorem n3_vf : Rows.fnStringsAreReadRow.veiledFits Tryz.pinned.checked.prog Tryz.f5.params.toList (Tryz.f5.params.toList ++ (OpenSpec.ofChange Rows.fnStringsAreReadSpec).bare.plain.varTypes Tryz.pinned.checked.prog ++ Tryz.f5.resultTypes.toList) = true := by kernel_rfl
theorem n3_m1 : Tryz.pinned.checked.prog.mayEnter = true := by kernel_rfl
theorem n3_m2 : (Tryz.f5.resultTypes.toList.all fun t => Tryz.pinned.checked.prog.readableRec t && decide (t < Tryz.pinned.checked.prog.types.size)) = true := by kernel_rfl
theorem n3_m3 : Tryz.pinned.checked.prog.stopsHeard = true := by kernel_rfl
theorem n3_m4 : Rows.fnStringsAreReadRow.ifacesOut = Tryz.f5.resultTypes.toList.any (Tryz.pinned.checked.prog.ifacesRec ·) := by kernel_rfl
theorem n3_m5 : Rows.fnStringsAreReadRow.loopsOut = Tryz.f5.resultTypes.toList.any (Tryz.pinned.checked.prog.loopsFrom ·) := by kernel_rfl
theorem n3_m7 : Rows.fnStringsAreReadRow.pinned = Rows.fnStringsAreReadRow.pinnedBy := by kernel_rfl
theorem n3_m8 : Rows.fnStringsAreReadRow.plainKeys = Tryz.pinned.checked.prog.plainKeys := by kernel_rfl
theorem n3_m9 : Rows.fnStringsAreReadRow.lifted = Tryz.pinned.checked.prog.liftsFinal := by kernel_rfl
theorem n3_m0 : Tryz.pinned.checked.prog.make = some Rows.fnStringsAreReadRow.make := by kernel_rfl
theorem n3_m6 : Rows.fnStringsAreReadRow.kinds = (if Rows.fnStringsAreReadRow.domain.isEmpty then [] else Tryz.f5.params.toList.map fun t => match Tryz.pinned.checked.prog.underlying t with | some (.int k) => some k | _ => none) := by kernel_rfl
end Go.Proofs.YtkaejhdncohgpaaGreatFmt
