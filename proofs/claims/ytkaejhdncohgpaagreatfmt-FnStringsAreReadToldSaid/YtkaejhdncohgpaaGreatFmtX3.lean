/- Any texts are read as these texts, in quotes: for every input the law returns true. Conditions: none beyond the card's own (fmt's text told, the listed variables tied). -/
import Derived.Test.YtkaejhdncohgpaaGreatFmtCT
import Derived.Test.YtkaejhdncohgpaaGreatFmtX3W
import Derived.Test.YtkaejhdncohgpaaGreatFmtY3
namespace Go.Proofs.YtkaejhdncohgpaaGreatFmt
set_option linter.all false
open Go.ChangeShapes Go.WideShapes Go.ChangeAt Go.RowKit Go.Kit Go.Lib
open Go.ChangeMaps (open_string shut_string)
open Go.Extern.Stop Go.Stop Go.Extern
set_option maxRecDepth 100000

theorem strings_lifted (os : Os) (started : os.Started) (H : Type) (enc : TypeId × Value → H) :
    ReturnsInTold none {} Tryz.checked os 5 .any Input.okWide ((OpenSpec.ofChange Rows.fnStringsAreReadSpec).preRow enc Tryz.prog Tryz.f5 [] false Rows.fnStringsAreReadRow.laid) (fun F => ((OpenSpec.ofChange Rows.fnStringsAreReadSpec).at F).post enc Tryz.prog Tryz.f5 false true false false) (aloneAtReturn Tryz.prog) nothingAlways := by
  refine returnsInTold_of_row (C := Tryz.checked) (s := OpenSpec.ofChange Rows.fnStringsAreReadSpec) (by kernel_rfl) own started (by kernel_rfl) Tryz.func5
    (witness_zip (enc := enc) (C := Tryz.checked) false (laidW os) #[.string ⟨#[]⟩, .string ⟨#[]⟩, .bool false, .bool false] (World.laidAll_os _ _ _) (fun _ => by kernel_rfl) (by kernel_rfl) (by kernel_rfl)
      (OpenSpec.preRow_of_B rfl 8 (by kernel_rfl) (by kernel_rfl) (laid_met os _))) ?_
  intro F W base args ds gs before _ hF hval0 hW _ _ _ hL _
  have hval : ∀ (j : Nat) t v, Tryz.f5.params[j]? = some t → args[j]? = some v → Value.okWide Tryz.prog W .any base t v := hval0
  have hW' := hW
  obtain ⟨p, q, hA0, hV, rfl, _, _⟩ := hW
  have hA : DataW.TrodAll enc Tryz.prog W 0 (fun _ => true) true Tryz.f5.params.toList args.toList ds p := hA0
  rw [Tryz.params5] at hA hval
  obtain ⟨rfl, rfl⟩ := trodVars_none hV
  obtain ⟨v0, vs0, d0, ds0, p0, q0, hvs, rfl, rfl, h0, hA⟩ := trodAll_cons hA
  obtain ⟨v1, vs1, d1, ds1, p1, q1, rfl, rfl, rfl, h1, hA⟩ := trodAll_cons hA
  obtain ⟨v2, vs2, d2, ds2, p2, q2, rfl, rfl, rfl, h2, hA⟩ := trodAll_cons hA
  obtain ⟨v3, vs3, d3, ds3, p3, q3, rfl, rfl, rfl, h3, hA⟩ := trodAll_cons hA
  obtain ⟨rfl, rfl, rfl⟩ := trodAll_nil hA
  obtain rfl : args = #[v0, v1, v2, v3] := by cases args; simp_all
  obtain ⟨s, rfl, rfl, rfl, w0⟩ := open_string Tryz.underlying9 (hval 0 9 v0 rfl rfl) h0
  obtain ⟨t, rfl, rfl, rfl, w1⟩ := open_string Tryz.underlying9 (hval 1 9 v1 rfl rfl) h1
  obtain ⟨m, rfl, rfl, rfl⟩ := open_bool Tryz.underlying4 (hval 2 4 v2 rfl rfl) h2
  obtain ⟨a, rfl, rfl, rfl⟩ := open_bool Tryz.underlying4 (hval 3 4 v3 rfl rfl) h3
  clear hA0 hval0 hA
  refine (Strings_any F.told s t m a W (tb_of F hF hL) (by unfold maxLen at w0; omega) (by unfold maxLen at w1; omega)).mono fun e W' ⟨he, hk⟩ => ?_
  subst he
  have hb : Below W.heap.size W W' := hk.below (Nat.le_refl _) (fun _ _ f => f)
  exact ⟨_, rfl, _, _, _, [], _, [], hW', trodAll_mk1 (shut_bool Tryz.underlying4 _), trodAll_cons_mk (shut_string Tryz.underlying9 w0) (trodAll_cons_mk (shut_string Tryz.underlying9 w1) (trodAll_cons_mk (shut_bool Tryz.underlying4 _) (trodAll_cons_mk (shut_bool Tryz.underlying4 _) trodAll_mk0))), rfl, hb.frame _, fun h => by cases h⟩
theorem strings_holds : Rows.FnStringsAreReadToldSaid :=
  Claim7.holds_of_told_tied_any_at .later 5 Tryz.f5 "fmt.Sprintf" [] [] _ _ _ _ _ n3_wf rfl rfl rfl laidOut n3_mr rfl ⟨rfl, rfl, rfl, rfl, rfl, rfl, rfl⟩ rfl rfl n3_nt n3_fn Tryz.func5 n3_rd
    n3_is n3_wr stopsL.symm rfl stopKnobs.symm n3_wo
    n3_ip n3_uf n3_rc n3_vn n3_mp n3_fc n3_mo n3_lo n3_wk rfl n3_vr rfl rfl
    rfl rfl
    rfl n3_mi n3_lk n3_ws n3_af n3_go fnStringsAreRead_row_tie
    (OpenClaim.moreEntering_of n3_m1 n3_m2 n3_m3 n3_m4 n3_m5 n3_m6 n3_m7 n3_m8 n3_m9 n3_m0)
    ⟨_, WideRow.started_initial, quietA _⟩
    (fun os started _ H enc _ => strings_lifted os started H enc) ⟨n3_vl, n3_vf⟩
#print axioms strings_holds
end Go.Proofs.YtkaejhdncohgpaaGreatFmt
