/- The closed facts of the card of 'FnNamesAreRead', one by one. -/
import Derived.Test.YtkaejhdncohgpaaGreatFmtCards
import Derived.Test.YtkaejhdncohgpaaGreatFmtTie
import Derived.SevenTiedAt
namespace Go.Proofs.YtkaejhdncohgpaaGreatFmt
set_option linter.all false
set_option maxRecDepth 100000

theorem n1_wf : Rows.fnNamesAreReadRow.wfByText (OpenSpec.ofChange Rows.fnNamesAreReadSpec) = true := by kernel_rfl
theorem n1_mr : mapsRowed Tryz.pinned.checked.prog = true := by kernel_rfl
theorem n1_nt : namedTie Tryz.pinned.checked.prog Rows.fnNamesAreReadRow.namedList (OpenSpec.ofChange Rows.fnNamesAreReadSpec).vars = true := by kernel_rfl
theorem n1_fn : Tryz.pinned.checked.prog.funcNamed Rows.fnNamesAreReadRow.func = some 3 := by kernel_rfl
theorem n1_rd : (Tryz.f3.params.toList.all fun t => Tryz.pinned.checked.prog.readableRec t) = true := by kernel_rfl
theorem n1_is : Tryz.f3.isInstance Tryz.pinned.checked.prog Rows.fnNamesAreReadRow.origin Rows.fnNamesAreReadRow.targs := of_decide_eq_true (by kernel_rfl)
theorem n1_wr : Tryz.f3.isWrapper Tryz.pinned.checked.prog Rows.fnNamesAreReadRow.wrapper Rows.fnNamesAreReadRow.mainSum := of_decide_eq_true (by kernel_rfl)
theorem n1_wo : Tryz.pinned.checked.prog.envWorded = true := by kernel_rfl
theorem n1_ip : Rows.fnNamesAreReadRow.inPlace = Tryz.pinned.checked.prog.inPlace 3 := by kernel_rfl
theorem n1_uf : Rows.fnNamesAreReadRow.unfollowed = Tryz.pinned.checked.prog.unfollowed 3 := by kernel_rfl
theorem n1_rc : Rows.fnNamesAreReadRow.recurses = Tryz.pinned.checked.prog.recurses 3 := by kernel_rfl
theorem n1_vn : Rows.fnNamesAreReadRow.named = Tryz.pinned.checked.prog.varsNamed 3 := by kernel_rfl
theorem n1_mp : Rows.fnNamesAreReadRow.maps = (Tryz.f3.params.toList ++ (OpenSpec.ofChange Rows.fnNamesAreReadSpec).bare.plain.varTypes Tryz.pinned.checked.prog).any (Tryz.pinned.checked.prog.mapsRec ·) := by kernel_rfl
theorem n1_fc : Rows.fnNamesAreReadRow.ifaces = (Tryz.f3.params.toList ++ (OpenSpec.ofChange Rows.fnNamesAreReadSpec).bare.plain.varTypes Tryz.pinned.checked.prog).any (Tryz.pinned.checked.prog.ifacesRec ·) := by kernel_rfl
theorem n1_mo : Rows.fnNamesAreReadRow.mapsOut = Tryz.pinned.checked.prog.mapsAmong Tryz.f3.resultTypes.toList := by kernel_rfl
theorem n1_lo : Rows.fnNamesAreReadRow.loops = (Tryz.f3.params.toList ++ (OpenSpec.ofChange Rows.fnNamesAreReadSpec).bare.plain.varTypes Tryz.pinned.checked.prog).any (Tryz.pinned.checked.prog.loopsFrom ·) := by kernel_rfl
theorem n1_wk : Rows.fnNamesAreReadRow.wideKeys = (Tryz.f3.params.toList ++ (OpenSpec.ofChange Rows.fnNamesAreReadSpec).bare.plain.varTypes Tryz.pinned.checked.prog ++ Tryz.f3.resultTypes.toList).any (Tryz.pinned.checked.prog.wideKeysFrom ·) := by kernel_rfl
theorem n1_vr : ((OpenSpec.ofChange Rows.fnNamesAreReadSpec).vars.all fun n => Tryz.pinned.checked.prog.varReadable n) = true := by kernel_rfl
theorem n1_mi : Tryz.pinned.checked.prog.mainIs = some (true, "6339c1c16f402ab53fb6b76672e9eddb9c3082f0c234fcf8ee9fc8a0f75a1b04".toList) := by kernel_rfl
theorem n1_lk : true = Tryz.pinned.checked.prog.looks [] := by kernel_rfl
theorem n1_ws : (Tryz.f3.params.toList.all fun t => !Tryz.pinned.checked.prog.wantsStandIn t) = true := by kernel_rfl
theorem n1_af : Stop.anyFmt Rows.fnNamesAreReadRow.stops = true := by decide
theorem n1_go : false = Rows.fnNamesAreReadRow.goesBy Tryz.pinned.checked.prog := by kernel_rfl
theorem n1_vl : Rows.fnNamesAreReadRow.veiled = (Tryz.f3.params.toList ++ (OpenSpec.ofChange Rows.fnNamesAreReadSpec).bare.plain.varTypes Tryz.pinned.checked.prog ++ Tryz.f3.resultTypes.toList).any (Tryz.pinned.checked.prog.veiledRec ·) := by kernel_rfl
theorem n1_vf : Rows.fnNamesAreReadRow.veiledFits Tryz.pinned.checked.prog Tryz.f3.params.toList (Tryz.f3.params.toList ++ (OpenSpec.ofChange Rows.fnNamesAreReadSpec).bare.plain.varTypes Tryz.pinned.checked.prog ++ Tryz.f3.resultTypes.toList) = true := by kernel_rfl
theorem n1_m1 : Tryz.pinned.checked.prog.mayEnter = true := by kernel_rfl
theorem n1_m2 : (Tryz.f3.resultTypes.toList.all fun t => Tryz.pinned.checked.prog.readableRec t && decide (t < Tryz.pinned.checked.prog.types.size)) = true := by kernel_rfl
theorem n1_m3 : Tryz.pinned.checked.prog.stopsHeard = true := by kernel_rfl
theorem n1_m4 : Rows.fnNamesAreReadRow.ifacesOut = Tryz.f3.resultTypes.toList.any (Tryz.pinned.checked.prog.ifacesRec ·) := by kernel_rfl
theorem n1_m5 : Rows.fnNamesAreReadRow.loopsOut = Tryz.f3.resultTypes.toList.any (Tryz.pinned.checked.prog.loopsFrom ·) := by kernel_rfl
theorem n1_m7 : Rows.fnNamesAreReadRow.pinned = Rows.fnNamesAreReadRow.pinnedBy := by kernel_rfl
theorem n1_m8 : Rows.fnNamesAreReadRow.plainKeys = Tryz.pinned.checked.prog.plainKeys := by kernel_rfl
theorem n1_m9 : Rows.fnNamesAreReadRow.lifted = Tryz.pinned.checked.prog.liftsFinal := by kernel_rfl
theorem n1_m0 : Tryz.pinned.checked.prog.make = some Rows.fnNamesAreReadRow.make := by kernel_rfl
theorem n1_m6 : Rows.fnNamesAreReadRow.kinds = (if Rows.fnNamesAreReadRow.domain.isEmpty then [] else Tryz.f3.params.toList.map fun t => match Tryz.pinned.checked.prog.underlying t with | some (.int k) => some k | _ => none) := by kernel_rfl
end Go.Proofs.YtkaejhdncohgpaaGreatFmt
