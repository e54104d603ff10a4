/- A tree of tokens is printed as the same text as a prelude of an at-rule, as a prelude of a rule, and as a value: for every input the law returns true. Conditions: none beyond the card's own (fmt's text told, the listed variables tied). -/
import Derived.Test.YtkaejhdncohgpaaGreatFmtCT
import Derived.Test.YtkaejhdncohgpaaGreatFmtN4
import Derived.Test.YtkaejhdncohgpaaGreatFmtY4
import Derived.ChangeSlices
import Derived.Carry
import Derived.Deep.Slices
namespace Go.Proofs.YtkaejhdncohgpaaGreatFmt
set_option linter.all false
open Go.ChangeShapes Go.WideShapes Go.ChangeAt Go.RowKit Go.Kit Go.Lib
open Go.ChangeMaps (open_string shut_string)
open Go.Extern.Stop Go.Stop Go.Extern
set_option maxRecDepth 100000

theorem cells25 : Tryz.prog.cellsOf 25 = 6 := by kernel_rfl
theorem cells3o : Tryz.prog.cellsOf 3 = 1 := by kernel_rfl
theorem cells4o : Tryz.prog.cellsOf 4 = 1 := by kernel_rfl
theorem cells9o : Tryz.prog.cellsOf 9 = 1 := by kernel_rfl
instance : Inhabited ND := ⟨⟨0, 0, 0, [], false, false⟩⟩
/-- A node that came in, opened. -/
theorem nd_open {H : Type} {enc : TypeId × Value → H} {w : World} {base : Nat} {sp : Nat → Bool} {held : Bool} {fuel : Nat} {cs : List Value} {x : DataW H × List MemPlace} (h : DataW.trod enc Tryz.prog w base sp held fuel 25 cs = some x) : ∃ n : ND, cs = n.cells := by
  obtain ⟨xs, n, _, rfl, hlen, hxl, hf⟩ := DataW.trod_struct Tryz.underlying25 h
  rw [cells25] at hlen
  have hxl6 : xs.length = 6 := hxl
  match cs, hlen with
  | [c0, c1, c2, c3, c4, c5], _ =>
    match xs, hxl6 with
    | [x0, x1, x2, x3, x4, x5], _ =>
      have t0 := hf 0 _ rfl
      have t1 := hf 1 _ rfl
      have t2 := hf 2 _ rfl
      have t3 := hf 3 _ rfl
      have t4 := hf 4 _ rfl
      have t5 := hf 5 _ rfl
      simp only [cells3o, cells4o, cells9o, List.drop, List.take, List.getElem?_cons_zero, List.getElem?_cons_succ] at t0 t1 t2 t3 t4 t5
      obtain ⟨z0, h0, -, -⟩ := DataW.trod_int Tryz.underlying3 t0
      obtain ⟨z1, h1, -, -⟩ := DataW.trod_int Tryz.underlying3 t1
      obtain ⟨z2, h2, -, -⟩ := DataW.trod_int Tryz.underlying3 t2
      obtain ⟨s, h3, -, -⟩ := DataW.trod_string Tryz.underlying9 t3
      obtain ⟨b4, h4, -⟩ := DataW.trod_bool Tryz.underlying4 t4
      obtain ⟨b5, h5, -⟩ := DataW.trod_bool Tryz.underlying4 t5
      injection h0 with h0 _
      injection h1 with h1 _
      injection h2 with h2 _
      injection h3 with h3 _
      injection h4 with h4 _
      injection h5 with h5 _
      subst h0 h1 h2 h3 h4 h5
      exact ⟨⟨z0, z1, z2, s.data.toList, b4, b5⟩, by simp [ND.cells, bstr]⟩
/-- Nodes that came in, opened. -/
theorem slN_open {H : Type} {enc : TypeId × Value → H} {w : World} {v : Value} {d : DataW H} {ps : List MemPlace} {A : Option Addr} {n c : Nat} (hv : v = .slice A n c) (h : DataW.Trod enc Tryz.prog w 0 (fun _ => true) true 26 v d ps) : ∃ l, SlN w v l ∧ l.length ≤ 9223372036854775807 := by
  subst hv
  obtain ⟨fuel, hf⟩ := h
  rcases Go.Deep.open_slice Tryz.underlying26 hf with ⟨hcs, hx⟩ | ⟨a, len, cap, m, k, D, Pl, hcs, _, hl, hm, hmm, hx, hel⟩
  · simp [Value.cells] at hcs
    obtain ⟨rfl, rfl, rfl⟩ := hcs
    exact ⟨[], ⟨none, 0, rfl, .inl rfl⟩, by simp⟩
  · simp [Value.cells] at hcs
    obtain ⟨rfl, rfl, rfl⟩ := hcs
    replace hmm : m = c := hmm
    obtain ⟨f, hfn⟩ := Go.Deep.choose_lt (α := ND) (n := n) (p := fun i nd => ∀ j u, nd.cells[j]? = some u → w.cell? ((a.add (i * 6)).add j) = some u) (fun i hi => by
      obtain ⟨cs', h1, h2⟩ := hel i (by omega)
      rw [cells25] at h1
      obtain ⟨_, hlen, hcell⟩ := World.cells?_some h1
      obtain ⟨nd, rfl⟩ := nd_open h2
      refine ⟨nd, fun j u hu => ?_⟩
      have hj : j < 6 := by
        have := (List.getElem?_eq_some_iff.1 hu).1
        simpa [ND.cells] using this
      rw [hcell j hj, hu])
    have hll : ((List.range n).map f).length = n := by simp
    refine ⟨(List.range n).map f, ⟨some a, c, by rw [hll], ?_⟩, by rw [hll]; unfold maxLen at hm; omega⟩
    by_cases h0 : n = 0
    · left
      apply List.eq_nil_of_length_eq_zero
      rw [hll, h0]
    · right
      obtain ⟨b, o, sp⟩ := a
      have hsp : sp = none := by
        have := World.cell?_spot (hfn 0 (by omega) 0 _ rfl)
        simpa [Addr.add] using this
      subst hsp
      refine ⟨b, o, rfl, fun i nd hi j u hu => ?_⟩
      have hin : i < n := by
        have := (List.getElem?_eq_some_iff.1 hi).1
        rwa [hll] at this
      have e : nd = f i := by
        rw [List.getElem?_map, List.getElem?_range hin] at hi
        simpa using hi.symm
      subst e
      have := hfn i hin j u hu
      rwa [WideShapes.add_plain, WideShapes.add_plain] at this
theorem stays4 {H : Type} {enc : TypeId × Value → H} {W : World} {t : TypeId} {v : Value} {d : DataW H} {p ps : List MemPlace} (ht : Tryz.prog.readableRec t = true) (hs : t < Tryz.prog.types.size) (h : DataW.Trod enc Tryz.prog W 0 (fun _ => true) true t v d p) (hlt : ∀ x ∈ ps, x.block < W.heap.size) (hin : ∀ x ∈ p, x ∈ ps)
    (W' : World) (hb : Below W.heap.size W W') : DataW.Trod enc Tryz.prog W' 0 (fun b => decide (b < W.heap.size)) true t v d p :=
  Below.trod (by kernel_rfl) ht hs h hb fun x hx => hlt x (hin x hx)
theorem roads_lifted (os : Os) (started : os.Started) (H : Type) (enc : TypeId × Value → H) :
    ReturnsInTold none {} Tryz.checked os 6 .any Input.okWide ((OpenSpec.ofChange Rows.fnThreeRoadsSpec).preRow enc Tryz.prog Tryz.f6 [] false Rows.fnThreeRoadsRow.laid) (fun F => ((OpenSpec.ofChange Rows.fnThreeRoadsSpec).at F).post enc Tryz.prog Tryz.f6 false true false false) (aloneAtReturn Tryz.prog) nothingAlways := by
  refine returnsInTold_of_row (C := Tryz.checked) (s := OpenSpec.ofChange Rows.fnThreeRoadsSpec) (by kernel_rfl) own started (by kernel_rfl) Tryz.func6
    (witness_zip (enc := enc) (C := Tryz.checked) false (laidW os) #[.slice none 0 0, .bool false] (World.laidAll_os _ _ _) (fun _ => by kernel_rfl) (by kernel_rfl) (by kernel_rfl)
      (OpenSpec.preRow_of_B rfl 8 (by kernel_rfl) (by kernel_rfl) (laid_met os _))) ?_
  intro F W base args ds gs before _ hF hval0 hW _ _ _ hL _
  have hval : ∀ (j : Nat) t v, Tryz.f6.params[j]? = some t → args[j]? = some v → Value.okWide Tryz.prog W .any base t v := hval0
  have hW' := hW
  obtain ⟨p, q, hA0, hV, rfl, _, _⟩ := hW
  have hA : DataW.TrodAll enc Tryz.prog W 0 (fun _ => true) true Tryz.f6.params.toList args.toList ds p := hA0
  rw [Tryz.params6] at hA hval
  obtain ⟨rfl, rfl⟩ := trodVars_none hV
  simp only [List.append_nil] at hW'
  have hlt : ∀ x ∈ p, x.block < W.heap.size := fun x hx => by simpa using hW'.lt x hx
  obtain ⟨v0, vs0, d0, ds0, p0, q0, hvs, rfl, rfl, h0, hA⟩ := trodAll_cons hA
  obtain ⟨v1, vs1, d1, ds1, p1, q1, rfl, rfl, rfl, h1, hA⟩ := trodAll_cons hA
  obtain ⟨rfl, rfl, rfl⟩ := trodAll_nil hA
  obtain rfl : args = #[v0, v1] := by cases args; simp_all
  have s0 := stays4 (by kernel_rfl) (of_decide_eq_true (by kernel_rfl)) h0 hlt (by simp +contextual)
  have s1 := stays4 (by kernel_rfl) (of_decide_eq_true (by kernel_rfl)) h1 hlt (by simp +contextual)
  obtain ⟨A0, n0, c0, e0⟩ := okWide_slice Tryz.underlying26 (hval 0 26 v0 rfl rfl)
  obtain ⟨l, b0, g0⟩ := slN_open e0 h0
  obtain ⟨a, rfl, -, -⟩ := open_bool Tryz.underlying4 (hval 1 4 v1 rfl rfl) h1
  clear hA0 hval0 hA
  refine (Three_any F.told l v0 a W (tb_of F hF hL) b0 g0).mono fun e W' ⟨he, hk⟩ => ?_
  subst he
  have hb : Below W.heap.size W W' := hk.below (Nat.le_refl _) (fun _ _ f => f)
  exact ⟨_, rfl, _, _, _, [], _, [], hW', trodAll_mk1 (shut_bool Tryz.underlying4 _), trodAll_cons_mk (s0 W' hb) (trodAll_cons_mk (s1 W' hb) trodAll_mk0), rfl, hb.frame _, fun h => by cases h⟩
theorem roads_holds : Rows.FnThreeRoadsToldSaid :=
  Claim7.holds_of_told_tied_any_at .later 6 Tryz.f6 "fmt.Sprintf" [] [] _ _ _ _ _ n4_wf rfl rfl rfl laidOut n4_mr rfl ⟨rfl, rfl, rfl, rfl, rfl, rfl, rfl⟩ rfl rfl n4_nt n4_fn Tryz.func6 n4_rd
    n4_is n4_wr stopsL.symm rfl stopKnobs.symm n4_wo
    n4_ip n4_uf n4_rc n4_vn n4_mp n4_fc n4_mo n4_lo n4_wk rfl n4_vr rfl rfl
    rfl rfl
    rfl n4_mi n4_lk n4_ws n4_af n4_go fnThreeRoads_row_tie
    (OpenClaim.moreEntering_of n4_m1 n4_m2 n4_m3 n4_m4 n4_m5 n4_m6 n4_m7 n4_m8 n4_m9 n4_m0)
    ⟨_, WideRow.started_initial, quietA _⟩
    (fun os started _ H enc _ => roads_lifted os started H enc) ⟨n4_vl, n4_vf⟩
#print axioms roads_holds
end Go.Proofs.YtkaejhdncohgpaaGreatFmt
