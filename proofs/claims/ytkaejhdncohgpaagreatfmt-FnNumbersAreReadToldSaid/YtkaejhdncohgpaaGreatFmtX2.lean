/- Any number (a sign, digits, a point and digits, a power of ten), by itself, with a percent sign and with any unit, is read as this number, percentage or dimension: for every input the law returns true. Conditions: none beyond the card's own (fmt's text told, the listed variables tied). -/
import Derived.Test.YtkaejhdncohgpaaGreatFmtCT
import Derived.Test.YtkaejhdncohgpaaGreatFmtX2W
import Derived.Test.YtkaejhdncohgpaaGreatFmtY2
import Derived.ChangeSlices
import Derived.Carry
namespace Go.Proofs.YtkaejhdncohgpaaGreatFmt
set_option linter.all false
open Go.ChangeShapes Go.WideShapes Go.ChangeAt Go.RowKit Go.Kit Go.Lib
open Go.ChangeMaps (open_string shut_string)
open Go.Extern.Stop Go.Stop Go.Extern
set_option maxRecDepth 100000

/-- A slice of bytes that came in, opened. -/
theorem slB_open {H : Type} {enc : TypeId × Value → H} {w : World} {v : Value} {d : DataW H} {ps : List MemPlace} {A : Option Addr} {n c : Nat} (hv : v = .slice A n c) (h : DataW.Trod enc Tryz.prog w 0 (fun _ => true) true 34 v d ps) : ∃ l, SlB w v l ∧ l.length ≤ 9223372036854775807 := by
  subst hv
  obtain ⟨fuel, hf⟩ := h
  rcases open_ints Tryz.underlying34 Tryz.underlying5 (by kernel_rfl) hf with ⟨hcs, hx⟩ | ⟨a, len', cap', zs, hcs, _, hl, hm, hz, hx, hcell, hwz⟩
  · simp [Value.cells] at hcs
    obtain ⟨rfl, rfl, rfl⟩ := hcs
    exact ⟨[], ⟨none, 0, rfl, .inl rfl⟩, by simp⟩
  · simp [Value.cells] at hcs
    obtain ⟨rfl, rfl, rfl⟩ := hcs
    simp only [if_true] at hz
    have hll : ((zs.take n).map fun z => UInt8.ofNat z.toNat).length = n := by simp; omega
    refine ⟨(zs.take n).map fun z => UInt8.ofNat z.toNat, ⟨some a, c, by rw [hll], ?_⟩, by rw [hll]; unfold maxLen at hm; omega⟩
    by_cases h0 : n = 0
    · left
      apply List.eq_nil_of_length_eq_zero
      rw [hll, h0]
    · right
      obtain ⟨b, o, sp⟩ := a
      have hsp : sp = none := by
        have := World.cell?_spot (hcell 0 (by omega))
        simpa [Addr.add] using this
      subst hsp
      refine ⟨b, o, rfl, fun i hi => ?_⟩
      rw [hll] at hi
      have h1 := hcell i (by omega)
      rw [WideShapes.add_plain] at h1
      rw [h1]
      have hi2 : i < zs.length := by omega
      have hw := hwz zs[i] (List.getElem_mem hi2)
      have hr : 0 ≤ zs[i] ∧ zs[i] ≤ 255 := by
        have e1 : IntKind.u8.min = 0 := rfl
        have e2 : IntKind.u8.max = 255 := rfl
        simpa [Lit.wf, e1, e2] using hw
      have e3 : ((zs.take n).map fun z => UInt8.ofNat z.toNat).getD i 0 = UInt8.ofNat zs[i].toNat := by
        simp [List.getD, List.getElem?_take, hi, hi2]
      rw [e3]
      have e4 : zs.getD i 0 = zs[i] := by simp [List.getD, hi2]
      rw [e4, UInt8.toNat_ofNat', Nat.mod_eq_of_lt (by omega)]
      congr 2
      omega
theorem stays {H : Type} {enc : TypeId × Value → H} {W : World} {t : TypeId} {v : Value} {d : DataW H} {p ps : List MemPlace} (ht : Tryz.prog.readableRec t = true) (hs : t < Tryz.prog.types.size) (h : DataW.Trod enc Tryz.prog W 0 (fun _ => true) true t v d p) (hlt : ∀ x ∈ ps, x.block < W.heap.size) (hin : ∀ x ∈ p, x ∈ ps)
    (W' : World) (hb : Below W.heap.size W W') : DataW.Trod enc Tryz.prog W' 0 (fun b => decide (b < W.heap.size)) true t v d p :=
  Below.trod (by kernel_rfl) ht hs h hb fun x hx => hlt x (hin x hx)
theorem numbers_lifted (os : Os) (started : os.Started) (H : Type) (enc : TypeId × Value → H) :
    ReturnsInTold none {} Tryz.checked os 4 .any Input.okWide ((OpenSpec.ofChange Rows.fnNumbersAreReadSpec).preRow enc Tryz.prog Tryz.f4 [] false Rows.fnNumbersAreReadRow.laid) (fun F => ((OpenSpec.ofChange Rows.fnNumbersAreReadSpec).at F).post enc Tryz.prog Tryz.f4 false true false false) (aloneAtReturn Tryz.prog) nothingAlways := by
  refine returnsInTold_of_row (C := Tryz.checked) (s := OpenSpec.ofChange Rows.fnNumbersAreReadSpec) (by kernel_rfl) own started (by kernel_rfl) Tryz.func4
    (witness_zip (enc := enc) (C := Tryz.checked) false (laidW os) #[.int .i64 0, .slice none 0 0, .slice none 0 0, .string ⟨#[]⟩, .string ⟨#[]⟩, .bool false, .bool false] (World.laidAll_os _ _ _) (fun _ => by kernel_rfl) (by kernel_rfl) (by kernel_rfl)
      (OpenSpec.preRow_of_B rfl 8 (by kernel_rfl) (by kernel_rfl) (laid_met os _))) ?_
  intro F W base args ds gs before _ hF hval0 hW _ _ _ hL _
  have hval : ∀ (j : Nat) t v, Tryz.f4.params[j]? = some t → args[j]? = some v → Value.okWide Tryz.prog W .any base t v := hval0
  have hW' := hW
  obtain ⟨p, q, hA0, hV, rfl, _, _⟩ := hW
  have hA : DataW.TrodAll enc Tryz.prog W 0 (fun _ => true) true Tryz.f4.params.toList args.toList ds p := hA0
  rw [Tryz.params4] at hA hval
  obtain ⟨rfl, rfl⟩ := trodVars_none hV
  simp only [List.append_nil] at hW'
  have hlt : ∀ x ∈ p, x.block < W.heap.size := fun x hx => by simpa using hW'.lt x hx
  obtain ⟨v0, vs0, d0, ds0, p0, q0, hvs, rfl, rfl, h0, hA⟩ := trodAll_cons hA
  obtain ⟨v1, vs1, d1, ds1, p1, q1, rfl, rfl, rfl, h1, hA⟩ := trodAll_cons hA
  obtain ⟨v2, vs2, d2, ds2, p2, q2, rfl, rfl, rfl, h2, hA⟩ := trodAll_cons hA
  obtain ⟨v3, vs3, d3, ds3, p3, q3, rfl, rfl, rfl, h3, hA⟩ := trodAll_cons hA
  obtain ⟨v4, vs4, d4, ds4, p4, q4, rfl, rfl, rfl, h4, hA⟩ := trodAll_cons hA
  obtain ⟨v5, vs5, d5, ds5, p5, q5, rfl, rfl, rfl, h5, hA⟩ := trodAll_cons hA
  obtain ⟨v6, vs6, d6, ds6, p6, q6, rfl, rfl, rfl, h6, hA⟩ := trodAll_cons hA
  obtain ⟨rfl, rfl, rfl⟩ := trodAll_nil hA
  obtain rfl : args = #[v0, v1, v2, v3, v4, v5, v6] := by cases args; simp_all
  have s0 := stays (by kernel_rfl) (of_decide_eq_true (by kernel_rfl)) h0 hlt (by simp +contextual)
  have s1 := stays (by kernel_rfl) (of_decide_eq_true (by kernel_rfl)) h1 hlt (by simp +contextual)
  have s2 := stays (by kernel_rfl) (of_decide_eq_true (by kernel_rfl)) h2 hlt (by simp +contextual)
  have s3 := stays (by kernel_rfl) (of_decide_eq_true (by kernel_rfl)) h3 hlt (by simp +contextual)
  have s4 := stays (by kernel_rfl) (of_decide_eq_true (by kernel_rfl)) h4 hlt (by simp +contextual)
  have s5 := stays (by kernel_rfl) (of_decide_eq_true (by kernel_rfl)) h5 hlt (by simp +contextual)
  have s6 := stays (by kernel_rfl) (of_decide_eq_true (by kernel_rfl)) h6 hlt (by simp +contextual)
  obtain ⟨z, rfl, -, -, -⟩ := open_int Tryz.underlying3 (hval 0 3 v0 rfl rfl) h0
  obtain ⟨A1, n1, c1, e1⟩ := okWide_slice Tryz.underlying34 (hval 1 34 v1 rfl rfl)
  obtain ⟨A2, n2, c2, e2⟩ := okWide_slice Tryz.underlying34 (hval 2 34 v2 rfl rfl)
  obtain ⟨l1, b1, g1⟩ := slB_open e1 h1
  obtain ⟨l2, b2, g2⟩ := slB_open e2 h2
  obtain ⟨s, rfl, -, -, w3⟩ := open_string Tryz.underlying9 (hval 3 9 v3 rfl rfl) h3
  obtain ⟨u, rfl, -, -, w4⟩ := open_string Tryz.underlying9 (hval 4 9 v4 rfl rfl) h4
  obtain ⟨m, rfl, -, -⟩ := open_bool Tryz.underlying4 (hval 5 4 v5 rfl rfl) h5
  obtain ⟨a, rfl, -, -⟩ := open_bool Tryz.underlying4 (hval 6 4 v6 rfl rfl) h6
  clear hA0 hval0 hA
  refine (Numbers_any F.told z v1 v2 l1 l2 s u m a W (tb_of F hF hL) b1 b2 g1 g2 (by unfold maxLen at w3; omega) (by unfold maxLen at w4; omega)).mono fun e W' ⟨he, hk⟩ => ?_
  subst he
  have hb : Below W.heap.size W W' := hk.below (Nat.le_refl _) (fun _ _ f => f)
  exact ⟨_, rfl, _, _, _, [], _, [], hW', trodAll_mk1 (shut_bool Tryz.underlying4 _), trodAll_cons_mk (s0 W' hb) (trodAll_cons_mk (s1 W' hb) (trodAll_cons_mk (s2 W' hb) (trodAll_cons_mk (s3 W' hb) (trodAll_cons_mk (s4 W' hb) (trodAll_cons_mk (s5 W' hb) (trodAll_cons_mk (s6 W' hb) trodAll_mk0)))))), rfl, hb.frame _, fun h => by cases h⟩
theorem numbers_holds : Rows.FnNumbersAreReadToldSaid :=
  Claim7.holds_of_told_tied_any_at .later 4 Tryz.f4 "fmt.Sprintf" [] [] _ _ _ _ _ n2_wf rfl rfl rfl laidOut n2_mr rfl ⟨rfl, rfl, rfl, rfl, rfl, rfl, rfl⟩ rfl rfl n2_nt n2_fn Tryz.func4 n2_rd
    n2_is n2_wr stopsL.symm rfl stopKnobs.symm n2_wo
    n2_ip n2_uf n2_rc n2_vn n2_mp n2_fc n2_mo n2_lo n2_wk rfl n2_vr rfl rfl
    rfl rfl
    rfl n2_mi n2_lk n2_ws n2_af n2_go fnNumbersAreRead_row_tie
    (OpenClaim.moreEntering_of n2_m1 n2_m2 n2_m3 n2_m4 n2_m5 n2_m6 n2_m7 n2_m8 n2_m9 n2_m0)
    ⟨_, WideRow.started_initial, quietA _⟩
    (fun os started _ H enc _ => numbers_lifted os started H enc) ⟨n2_vl, n2_vf⟩
#print axioms numbers_holds
end Go.Proofs.YtkaejhdncohgpaaGreatFmt
