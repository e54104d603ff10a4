/- From the listed variables to the tables that the walks read; fmt's text told; an input that fits. Under no condition of its own. -/
import Derived.Test.YtkaejhdncohgpaaGreatFmtC3
import Derived.Test.YtkaejhdncohgpaaGreatFmtShelf
import Derived.Test.YtkaejhdncohgpaaGreatFmtCards
import Derived.Test.YtkaejhdncohgpaaGreatFmtTie
import Derived.ProofKit
import Derived.Stop.JoinedAt
import Derived.Stop.JoinedTold
import Derived.Stop.Texts
import Derived.OpenShut
import Derived.Lay
import Derived.SevenTiedAt
import Derived.PinnedBridge
import Derived.Lib.LaidU8
import Derived.Lib.LaidCase
namespace Go.Proofs.YtkaejhdncohgpaaGreatFmt
set_option linter.all false
open Go.ChangeShapes Go.WideShapes Go.ChangeAt Go.RowKit Go.Kit Go.Lib
open Go.ChangeMaps (open_string shut_string)
open Go.Extern.Stop Go.Stop Go.Extern
set_option maxRecDepth 100000

theorem own : ownKnob Tryz.prog.godebug = none := by kernel_rfl
theorem laidOut : laidOutB Tryz.pinned.checked.prog = true := by kernel_rfl
theorem stopsL : Tryz.pinned.checked.prog.stops = ["fmt.Sprintf"] := by kernel_rfl
theorem stopKnobs : Tryz.pinned.checked.prog.stopKnobs = [] := by kernel_rfl
theorem quietA (os : Os) : Stop.quiet Tryz.pinned.checked.prog os := by
  intro k hk
  rw [stopKnobs] at hk
  cases hk
/-- The listed variables, by name. -/
noncomputable def laidL : List (String × DataW Unit) := Rows.fnNamesAreReadRow.laid
theorem laid1 : Rows.fnNumbersAreReadRow.laid = laidL := rfl
theorem laid2 : Rows.fnStringsAreReadRow.laid = laidL := rfl
theorem laid3 : Rows.fnThreeRoadsRow.laid = laidL := rfl
theorem accept_eq : Rows.laid_unicode_utf8_acceptRanges (H := Unit) = acceptData := by kernel_rfl
theorem u8x : U8Extra Tryz.prog Tryz.lays260_ren := { n3 := by kernel_rfl, n4 := by kernel_rfl, y3 := by kernel_rfl, y4 := by kernel_rfl, c5 := by kernel_rfl, c119 := by kernel_rfl, c138 := by kernel_rfl }
theorem lays274c : Go.Proofs.Lays.n274 Tryz.prog Tryz.lays262_ren := { Tryz.lays262 with }
theorem casex : CaseExtra Tryz.prog Tryz.lays262_ren := { n13 := by kernel_rfl, y13 := by kernel_rfl, c21 := by kernel_rfl, c51 := by kernel_rfl, c206 := by kernel_rfl, c208 := by kernel_rfl }
theorem plainH {w : World} (h : laidMetH Tryz.prog laidL w) : laidMet Tryz.prog laidL w := by
  rw [MakeChecks.laidMetH_plain _ _ _ (by kernel_rfl)] at h
  exact h
def foldData : DataW Unit := tabData .u16 ((List.range 128).map foldN)
def orbData : DataW Unit := .slice (orbT.map fun x => .agg ([x.1, x.2].map fun z => .lit (.int .u16 z))) []
theorem fold_eq : Rows.laid_unicode_asciiFold (H := Unit) = foldData := by kernel_rfl
theorem orb_eq : Rows.laid_unicode_caseOrbit (H := Unit) = orbData := by kernel_rfl
theorem u384 : Tryz.prog.cellsOf 384 = 2 := by kernel_rfl
theorem foldV_of {w : World} (h3 : VarReads Tryz.prog w "unicode.asciiFold" foldData) (h4 : VarReads Tryz.prog w "unicode.caseOrbit" orbData) : FoldV w := by
  refine ⟨fun c hc => ?_, ?_⟩
  · obtain ⟨g, t, cs, fuel, p, hg, hty, hvar, hd⟩ := h3
    obtain rfl := Option.some.inj ((show Tryz.prog.globalNamed "unicode.asciiFold" = some 3 by kernel_rfl).symm.trans hg)
    obtain rfl := Option.some.inj ((show (Tryz.prog.globals[3]?).map (·.type) = some 381 by kernel_rfl).symm.trans hty)
    have hcs := cells_of_tab (show Tryz.prog.underlying 381 = some (.array 128 70) by kernel_rfl) (show Tryz.prog.underlying 70 = some (.int .u16) by kernel_rfl) (by kernel_rfl) (by kernel_rfl) hd
    rw [World.var?_cell hg hvar c, ← Array.getElem?_toList, hcs]
    simp [hc]
  · obtain ⟨g, t, cs, fuel, p, hg, hty, hvar, hd⟩ := h4
    obtain rfl := Option.some.inj ((show Tryz.prog.globalNamed "unicode.caseOrbit" = some 4 by kernel_rfl).symm.trans hg)
    obtain rfl := Option.some.inj ((show (Tryz.prog.globals[4]?).map (·.type) = some 382 by kernel_rfl).symm.trans hty)
    rcases DataW.trod_slice (show Tryz.prog.underlying 382 = some (.slice 384) by kernel_rfl) hd with ⟨_, hx'⟩ | ⟨a', len, cap, el, rs, m, rfl, hc0, hx', _, hlc, _, hel, helem, hsp, _⟩
    · cases hx'
    have e0 := congrArg Prod.fst hx'
    simp only [orbData, DataW.slice.injEq] at e0
    obtain ⟨eE, eR⟩ := e0
    have h94 : orbT.length = 94 := by kernel_rfl
    have hlen : len = 94 := by
      have := congrArg List.length eE
      simp [h94] at this
      omega
    have hrow : ∀ i, i < len → ∀ j, j < 2 → w.cell? ((a'.add (i * 2)).add j) = ([.int .u16 (orbT.getD i (0, 0)).1, .int .u16 (orbT.getD i (0, 0)).2] : List Value)[j]? := by
      intro i hi j hj
      have h1 := helem i hi
      rw [u384] at h1
      obtain ⟨b, hb⟩ : ∃ b, el[i]? = some b := ⟨el[i]'(by omega), List.getElem?_eq_getElem (by omega)⟩
      rw [hb] at h1
      obtain ⟨ce, hce, hte⟩ := Option.bind_eq_some_iff.1 h1
      have hb1 : b.1 = .agg ([(orbT.getD i (0, 0)).1, (orbT.getD i (0, 0)).2].map fun z => .lit (.int .u16 z)) := by
        have := congrArg (·[i]?) eE
        simp only [List.getElem?_map, hb, Option.map_some] at this
        have hi' : i < orbT.length := by omega
        rw [List.getElem?_eq_getElem hi'] at this
        simp only [Option.map_some, Option.some.injEq] at this
        rw [← this]
        simp [List.getD, hi']
      obtain ⟨fs, hfs, hff, hfz⟩ : ∃ fs : Array Field, Tryz.prog.underlying 384 = some (.struct fs) ∧ (∀ (i : Nat) (f : Field), fs[i]? = some f → Tryz.prog.underlying f.type = some (.int .u16) ∧ f.offset = i ∧ Tryz.prog.cellsOf f.type = 1) ∧ fs.size = 2 := by
        refine ⟨_, Tryz.underlying384, fun j f hj => ?_, rfl⟩
        match j, hj with
        | 0, hj => simp at hj; subst hj; exact ⟨by kernel_rfl, rfl, by kernel_rfl⟩
        | 1, hj => simp at hj; subst hj; exact ⟨by kernel_rfl, rfl, by kernel_rfl⟩
        | j + 2, hj => simp at hj
      rw [show b = (b.1, b.2) from rfl, hb1] at hte
      have hcs := ints_of_struct hfs hff (by rw [u384, hfz]) hte
      obtain ⟨_, _, hcc⟩ := World.cells?_some hce
      rw [hcc j hj, hcs]
      rfl
    obtain ⟨R, oR, sR⟩ := a'
    obtain rfl : sR = none := by
      have h00 := hrow 0 (by omega) 0 (by omega)
      have : (Addr.add (Addr.add ⟨R, oR, sR⟩ (0 * 2)) 0) = ⟨R, oR, sR⟩ := by simp [Addr.add]
      rw [this] at h00
      exact cell_spot h00
    refine ⟨R, oR, cap, ?_, fun i hi => ?_⟩
    · rw [World.var?_cell hg hvar 0, ← Array.getElem?_toList, hc0, hlen]
      rfl
    · have k0 := hrow i (by omega) 0 (by omega)
      have k1 := hrow i (by omega) 1 (by omega)
      rw [Addr.add_lit, Addr.add_lit] at k0 k1
      exact ⟨by simpa using k0, by simpa using k1⟩
theorem tabs_of {w : World} (h : laidMetH Tryz.prog laidL w) : Lib.Utf8Tabs 1 2 w ∧ CaseVar 5 caseA w ∧ FoldV w := by
  have hl := plainH h
  have h1 : VarReads Tryz.prog w "unicode/utf8.first" firstData := by
    have := laidMet.reads hl (n := "unicode/utf8.first") (d := Rows.laid_unicode_utf8_first) (by simp [laidL, Rows.fnNamesAreReadRow])
    rwa [show Rows.laid_unicode_utf8_first = firstData from Pinned.utf8First_eq] at this
  have h2 : VarReads Tryz.prog w "unicode/utf8.acceptRanges" acceptData := by
    have := laidMet.reads hl (n := "unicode/utf8.acceptRanges") (d := Rows.laid_unicode_utf8_acceptRanges) (by simp [laidL, Rows.fnNamesAreReadRow])
    rwa [accept_eq] at this
  have h3 : VarReads Tryz.prog w "unicode.CaseRanges" caseData := by
    have := laidMet.reads hl (n := "unicode.CaseRanges") (d := Rows.laid_unicode_CaseRanges) (by simp [laidL, Rows.fnNamesAreReadRow])
    rwa [show Rows.laid_unicode_CaseRanges = caseData from Pinned.caseRanges_eq] at this
  have h4 : VarReads Tryz.prog w "unicode.asciiFold" foldData := by
    have := laidMet.reads hl (n := "unicode.asciiFold") (d := Rows.laid_unicode_asciiFold) (by simp [laidL, Rows.fnNamesAreReadRow])
    rwa [fold_eq] at this
  have h5 : VarReads Tryz.prog w "unicode.caseOrbit" orbData := by
    have := laidMet.reads hl (n := "unicode.caseOrbit") (d := Rows.laid_unicode_caseOrbit) (by simp [laidL, Rows.fnNamesAreReadRow])
    rwa [orb_eq] at this
  exact ⟨utf8Tabs_of_reads Tryz.lays260 u8x h1 h2, caseVar_of_reads lays274c (by kernel_rfl) casex h3, foldV_of h4 h5⟩
/-- What F.told answers at an escape's digits. -/
theorem txt_told (F : Go.Stop.Interp) : TxtLaw F.told := by
  intro c h0 h1
  have hlen := hexL_len c h0 h1
  have ht := told_string F (ask_text c h0 h1) (by simp; omega)
  rw [textOf_list]
  exact ht
theorem tb_of (F : Go.Stop.Interp) {W : World} (hF : F.told.answers W.tape) (hL : laidMetH Tryz.prog laidL W) : TbG F.told W.heap.size W := by
  obtain ⟨h1, h2, h3⟩ := tabs_of hL
  exact ⟨W, Nat.le_refl _, h1, h2, ⟨⟨hF, txt_told F⟩, h3⟩, Below.refl _ _⟩
/-- The world in which the listed variables hold what is listed. -/
noncomputable def laidW (os : Os) : World := World.laidAll Tryz.prog os laidL
theorem laid_met (os : Os) (args : Array Value) : laidMetH Tryz.prog laidL ((laidW os).forCall (fun _ _ => 0) ⟨#[], args, []⟩).memory := by
  rw [MakeChecks.laidMetH_plain _ _ _ (by kernel_rfl)]
  exact laidMet_laidAll _ (by kernel_rfl) (by kernel_rfl)
section
variable {H : Type} {enc : TypeId × Value → H}
/-- There is an input that fits. -/
theorem witness_zip {C : Checked} {os : Os} {f : FuncId} {fn : Func} {s : OpenSpec} {conds : List PathCond} {apart : Bool} {laid : List (String × DataW Unit)} (modest : Bool) (w0 : World) (args : Array Value) (hos : w0.os = os)
    (hv : ∀ tape : Tape, (w0.forCall tape ⟨#[], args, []⟩).variablesZipB C.prog = true)
    (hr : ((w0.forCall (fun _ _ => 0) ⟨#[], args, []⟩).heap.toList.drop C.prog.globals.size).take ((begin C.prog (fun _ _ => 0) default).world.heap.size - C.prog.globals.size) =
      (begin C.prog (fun _ _ => 0) default).world.heap.toList.drop C.prog.globals.size)
    (hok : Input.okWideB C.prog (w0.forCall (fun _ _ => 0) ⟨#[], args, []⟩) f ⟨#[], args, []⟩ = true)
    (hrow : s.preRow enc C.prog fn conds apart laid (w0.forCall (fun _ _ => 0) ⟨#[], args, []⟩).memory args) (F : Stop.Interp) :
    ∃ (w : World) (tape : Tape) (i : Input), w.os = os ∧ (w.forCall tape i).Shaped C.prog ∧ i.vars = [] ∧ Input.okWide C.prog (w.forCall tape i) .any w.heap.size f i ∧
      s.preRow enc C.prog fn conds apart laid (w.forCall tape i).memory i.args ∧ ({ modest := modest } : Assume).holds C.prog (lone (Frame.enter C.prog f i.args .normal) [] (w.forCall tape i)) ∧ F.answers tape :=
  ⟨w0, F.over fun _ _ => 0, ⟨#[], args, []⟩, hos, World.shaped_of_ZipB (w := w0.forCall (F.over fun _ _ => 0) ⟨#[], args, []⟩) (hv _) hr, (Input.okWide_of_okWideB (base := 0) hok).1, (Input.okWide_of_okWideB hok).2, hrow, by
    simp only [Assume.holds]
    exact ⟨by simp, by simp, fun _ => F.over_modest Modest.zero, by simp, by simp⟩, F.over_answers _⟩
end
end Go.Proofs.YtkaejhdncohgpaaGreatFmt
