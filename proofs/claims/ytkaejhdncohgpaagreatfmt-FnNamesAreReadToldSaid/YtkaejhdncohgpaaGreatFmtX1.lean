/- Any name of an at-rule, and of a property, and any name as an identifier, a hash, a keyword and a function in a value, is read as this name: for every input the law returns true. Conditions: none beyond the card's own (fmt's text told, the listed variables tied). -/
import Derived.Test.YtkaejhdncohgpaaGreatFmtCT
import Derived.Test.YtkaejhdncohgpaaGreatFmtM11
import Derived.Test.YtkaejhdncohgpaaGreatFmtY1
namespace Go.Proofs.YtkaejhdncohgpaaGreatFmt
set_option linter.all false
open Go.ChangeShapes Go.WideShapes Go.ChangeAt Go.RowKit Go.Kit Go.Lib
open Go.ChangeMaps (open_string shut_string)
open Go.Extern.Stop Go.Stop Go.Extern
set_option maxRecDepth 100000

theorem names_lifted (os : Os) (started : os.Started) (H : Type) (enc : TypeId × Value → H) :
    ReturnsInTold none {} Tryz.checked os 3 .any Input.okWide ((OpenSpec.ofChange Rows.fnNamesAreReadSpec).preRow enc Tryz.prog Tryz.f3 [] false Rows.fnNamesAreReadRow.laid) (fun F => ((OpenSpec.ofChange Rows.fnNamesAreReadSpec).at F).post enc Tryz.prog Tryz.f3 false true false false) (aloneAtReturn Tryz.prog) nothingAlways := by
  refine returnsInTold_of_row (C := Tryz.checked) (s := OpenSpec.ofChange Rows.fnNamesAreReadSpec) (by kernel_rfl) own started (by kernel_rfl) Tryz.func3
    (witness_zip (enc := enc) (C := Tryz.checked) false (laidW os) #[.string ⟨#[]⟩, .bool false, .bool false] (World.laidAll_os _ _ _) (fun _ => by kernel_rfl) (by kernel_rfl) (by kernel_rfl)
      (OpenSpec.preRow_of_B rfl 8 (by kernel_rfl) (by kernel_rfl) (laid_met os _))) ?_
  intro F W base args ds gs before _ hF hval0 hW _ _ _ hL _
  have hval : ∀ (j : Nat) t v, Tryz.f3.params[j]? = some t → args[j]? = some v → Value.okWide Tryz.prog W .any base t v := hval0
  have hW' := hW
  obtain ⟨p, q, hA0, hV, rfl, _, _⟩ := hW
  have hA : DataW.TrodAll enc Tryz.prog W 0 (fun _ => true) true Tryz.f3.params.toList args.toList ds p := hA0
  rw [Tryz.params3] at hA hval
  obtain ⟨v0, v1, v2, d0, d1, d2, p0, p1, p2, rfl, rfl, hp, h0, h1, h2⟩ := trodAll_three hA
  obtain ⟨rfl, rfl⟩ := trodVars_none hV
  obtain ⟨s, rfl, rfl, rfl, ws⟩ := open_string Tryz.underlying9 (hval 0 9 v0 rfl rfl) h0
  obtain ⟨m, rfl, rfl, rfl⟩ := open_bool Tryz.underlying4 (hval 1 4 v1 rfl rfl) h1
  obtain ⟨a, rfl, rfl, rfl⟩ := open_bool Tryz.underlying4 (hval 2 4 v2 rfl rfl) h2
  clear hA0 hval0 hA
  refine (Names_any F.told s m a W (tb_of F hF hL) (by unfold maxLen at ws; omega)).mono fun e W' ⟨he, hk⟩ => ?_
  subst he
  have hb : Below W.heap.size W W' := hk.below (Nat.le_refl _) (fun _ _ f => f)
  refine ⟨_, rfl, _, _, _, [], [], [], hW', ?_, ?_, rfl, hb.frame _, fun h => by cases h⟩
  · exact trodAll_mk1 (shut_bool Tryz.underlying4 _)
  · exact trodAll_mk3 (shut_string Tryz.underlying9 ws) (shut_bool Tryz.underlying4 _) (shut_bool Tryz.underlying4 _)

theorem names_holds : Rows.FnNamesAreReadToldSaid :=
  Claim7.holds_of_told_tied_any_at .later 3 Tryz.f3 "fmt.Sprintf" [] [] _ _ _ _ _ n1_wf rfl rfl rfl laidOut n1_mr rfl ⟨rfl, rfl, rfl, rfl, rfl, rfl, rfl⟩ rfl rfl n1_nt n1_fn Tryz.func3 n1_rd
    n1_is n1_wr stopsL.symm rfl stopKnobs.symm n1_wo
    n1_ip n1_uf n1_rc n1_vn n1_mp n1_fc n1_mo n1_lo n1_wk rfl n1_vr rfl rfl
    rfl rfl
    rfl n1_mi n1_lk n1_ws n1_af n1_go fnNamesAreRead_row_tie
    (OpenClaim.moreEntering_of n1_m1 n1_m2 n1_m3 n1_m4 n1_m5 n1_m6 n1_m7 n1_m8 n1_m9 n1_m0)
    ⟨_, WideRow.started_initial, quietA _⟩
    (fun os started _ H enc _ => names_lifted os started H enc) ⟨n1_vl, n1_vf⟩
#print axioms names_holds
end Go.Proofs.YtkaejhdncohgpaaGreatFmt
