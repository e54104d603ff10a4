/- The closed facts of the card of 'FnNumbersAreRead', one by one. -/
import Derived.Test.YtkaejhdncohgpaaGreatFmtCards
import Derived.Test.YtkaejhdncohgpaaGreatFmtTie
import Derived.SevenTiedAt
namespace Go.Proofs.YtkaejhdncohgpaaGreatFmt
set_option maxRecDepth 100000

theorem n2_wf : Rows.fnNumbersAreReadRow.wfByText (OpenSpec.ofChange Rows.fnNumbersAreReadSpec) = true := by kernel_rfl
theorem n2_mr : mapsRowed Tryz.pinned.checked.prog = true := by kernel_rfl
theorem n2_nt : namedTie Tryz.pinned.checked.prog Rows.fnNumbersAreReadRow.namedList (OpenSpec.ofChange Rows.fnNumbersAreReadSpec).vars = true := by kernel_rfl
theorem n2_fn : Tryz.pinned.checked.prog.funcNamed Rows.fnNumbersAreReadRow.func = some 4 := by kernel_rfl
theorem n2_rd : (Tryz.f4.params.toList.all fun t => Tryz.pinned.checked.prog.readableRec t) = true := by kernel_rfl
theorem n2_is : Tryz.f4.isInstance Tryz.pinned.checked.prog Rows.fnNumbersAreReadRow.origin Rows.fnNumbersAreReadRow.targs := of_decide_eq_true (by kernel_rfl)
theorem n2_wr : Tryz.f4.isWrapper Tryz.pinned.checked.prog Rows.fnNumbersAreReadRow.wrapper Rows.fnNumbersAreReadRow.mainSum := of_decide_eq_true (by kernel_rfl)
theorem n2_wo : Tryz.pinned.checked.prog.envWorded = true := by kernel_rfl
theorem n2_ip : Rows.fnNumbersAreReadRow.inPlace = Tryz.pinned.checked.prog.inPlace 4 := by kernel_rfl
theorem n2_uf : Rows.fnNumbersAreReadRow.unfollowed = Tryz.pinned.checked.prog.unfollowed 4 := by kernel_rfl
theorem n2_rc : Rows.fnNumbersAreReadRow.recurses = Tryz.pinned.checked.prog.recurses 4 := by kernel_rfl
theorem n2_vn : Rows.fnNumbersAreReadRow.named = Tryz.pinned.checked.prog.varsNamed 4 := by kernel_rfl
theorem n2_mp : Rows.fnNumbersAreReadRow.maps = (Tryz.f4.params.toList ++ (OpenSpec.ofChange Rows.fnNumbersAreReadSpec).bare.plain.varTypes Tryz.pinned.checked.prog).any (Tryz.pinned.checked.prog.mapsRec ·) := by kernel_rfl
theorem n2_fc : Rows.fnNumbersAreReadRow.ifaces = (Tryz.f4.params.toList ++ (OpenSpec.ofChange Rows.fnNumbersAreReadSpec).bare.plain.varTypes Tryz.pinned.checked.prog).any (Tryz.pinned.checked.prog.ifacesRec ·) := by kernel_rfl
theorem n2_mo : Rows.fnNumbersAreReadRow.mapsOut = Tryz.pinned.checked.prog.mapsAmong Tryz.f4.resultTypes.toList := by kernel_rfl
theorem n2_lo : Rows.fnNumbersAreReadRow.loops = (Tryz.f4.params.toList ++ (OpenSpec.ofChange Rows.fnNumbersAreReadSpec).bare.plain.varTypes Tryz.pinned.checked.prog).any (Tryz.pinned.checked.prog.loopsFrom ·) := by kernel_rfl
theorem n2_wk : Rows.fnNumbersAreReadRow.wideKeys = (Tryz.f4.params.toList ++ (OpenSpec.ofChange Rows.fnNumbersAreReadSpec).bare.plain.varTypes Tryz.pinned.checked.prog ++ Tryz.f4.resultTypes.toList).any (Tryz.pinned.checked.prog.wideKeysFrom ·) := by kernel_rfl
theorem n2_vr : ((OpenSpec.ofChange Rows.fnNumbersAreReadSpec).vars.all fun n => Tryz.pinned.checked.prog.varReadable n) = true := by kernel_rfl
theorem n2_mi : Tryz.pinned.checked.prog.mainIs = some (true, "6339c1c16f402ab53fb6b76672e9eddb9c3082f0c234fcf8ee9fc8a0f75a1b04".toList) := by kernel_rfl
theorem n2_lk : true = Tryz.pinned.checked.prog.looks [] := by kernel_rfl
theorem n2_ws : (Tryz.f4.params.toList.all fun t => !Tryz.pinned.checked.prog.wantsStandIn t) = true := by kernel_rfl
theorem n2_af : Stop.anyFmt Rows.fnNumbersAreReadRow.stops = true := by decide
theorem n2_go : false = Rows.fnNumbersAreReadRow.goesBy Tryz.pinned.checked.prog := by kernel_rfl
theorem n2_vl : Rows.fnNumbersAreReadRow.veiled = (Tryz.f4.params.toList ++ (OpenSpec.ofChange Rows.fnNumbersAreReadSpec).bare.plain.varTypes Tryz.pinned.checked.prog ++ Tryz.f4.resultTypes.toList).any (Tryz.pinned.checked.prog.veiledRec ·) := by kernel_rfl
theorem n2_vf : Rows.fnNumbersAreReadRow.veiledFits Tryz.pinned.checked.prog Tryz.f4.params.toList (Tryz.f4.params.toList ++ (OpenSpec.ofChange Rows.fnNumbersAreReadSpec).bare.plain.varTypes Tryz.pinned.checked.prog ++ Tryz.f4.resultTypes.toList) = true := by kernel_rfl
theorem n2_m1 : Tryz.pinned.checked.prog.mayEnter = true := by kernel_rfl
theorem n2_m2 : (Tryz.f4.resultTypes.toList.all fun t => Tryz.pinned.checked.prog.readableRec t && decide (t < Tryz.pinned.checked.prog.types.size)) = true := by kernel_rfl
theorem n2_m3 : Tryz.pinned.checked.prog.stopsHeard = true := by kernel_rfl
theorem n2_m4 : Rows.fnNumbersAreReadRow.ifacesOut = Tryz.f4.resultTypes.toList.any (Tryz.pinned.checked.prog.ifacesRec ·) := by kernel_rfl
theorem n2_m5 : Rows.fnNumbersAreReadRow.loopsOut = Tryz.f4.resultTypes.toList.any (Tryz.pinned.checked.prog.loopsFrom ·) := by kernel_rfl
theorem n2_m7 : Rows.fnNumbersAreReadRow.pinned = Rows.fnNumbersAreReadRow.pinnedBy := by kernel_rfl
theorem n2_m8 : Rows.fnNumbersAreReadRow.plainKeys = Tryz.pinned.checked.prog.plainKeys := by kernel_rfl
theorem n2_m9 : Rows.fnNumbersAreReadRow.lifted = Tryz.pinned.checked.prog.liftsFinal := by kernel_rfl
theorem n2_m0 : Tryz.pinned.checked.prog.make = some Rows.fnNumbersAreReadRow.make := by kernel_rfl
theorem n2_m6 : Rows.fnNumbersAreReadRow.kinds = (if Rows.fnNumbersAreReadRow.domain.isEmpty then [] else Tryz.f4.params.toList.map fun t => match Tryz.pinned.checked.prog.underlying t with | some (.int k) => some k | _ => none) := by kernel_rfl
end Go.Proofs.YtkaejhdncohgpaaGreatFmt
