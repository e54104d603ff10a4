/- From the listed variables to the tables that the walks read; fmt's text told; an input that fits. Under no condition of its own. -/
import Derived.Test.YtkaejhdncohgpaaGreatFmtC3
import Derived.Test.YtkaejhdncohgpaaGreatFmtShelf
import Derived.Test.YtkaejhdncohgpaaGreatFmtCards
import Derived.Test.YtkaejhdncohgpaaGreatFmtTie
import Derived.ProofKit
import Derived.Stop.JoinedAt
import Derived.Stop.JoinedTold
import Derived.Stop.Texts
import Derived.OpenShut
import Derived.Lay
import Derived.SevenTiedAt
import Derived.PinnedBridge
import Derived.Lib.LaidU8
import Derived.Lib.LaidCase
namespace Go.Proofs.YtkaejhdncohgpaaGreatFmt
set_option linter.all false
open Go.ChangeShapes Go.WideShapes Go.ChangeAt Go.RowKit Go.Kit Go.Lib
open Go.ChangeMaps (open_string shut_string)
open Go.Extern.Stop Go.Stop Go.Extern
set_option maxRecDepth 100000

theorem own : ownKnob Tryz.prog.godebug = none := by kernel_rfl
theorem laidOut : laidOutB Tryz.pinned.checked.prog = true := by kernel_rfl
theorem stopsL : Tryz.pinned.checked.prog.stops = ["fmt.Sprintf"] := by kernel_rfl
theorem stopKnobs : Tryz.pinned.checked.prog.stopKnobs = [] := by kernel_rfl
theorem quietA (os : Os) : Stop.quiet Tryz.pinned.checked.prog os := by
  intro k hk
  rw [stopKnobs] at hk
  cases hk
/-- The listed variables, by name. -/
noncomputable def laidL : List (String × DataW Unit) := Rows.fnNamesAreReadRow.laid
theorem laid1 : Rows.fnNumbersAreReadRow.laid = laidL := rfl
theorem laid2 : Rows.fnStringsAreReadRow.laid = laidL := rfl
theorem laid3 : Rows.fnThreeRoadsRow.laid = laidL := rfl
theorem accept_eq : Rows.laid_unicode_utf8_acceptRanges (H := Unit) = acceptData := by kernel_rfl
theorem u8x : U8Extra Tryz.prog Tryz.lays260_ren := { n3 := by kernel_rfl, n4 := by kernel_rfl, y3 := by kernel_rfl, y4 := by kernel_rfl, c5 := by kernel_rfl, c119 := by kernel_rfl, c138 := by kernel_rfl }
theorem lays274c : Go.Proofs.Lays.n274 Tryz.prog Tryz.lays262_ren := { Tryz.lays262 with }
theorem casex : CaseExtra Tryz.prog Tryz.lays262_ren := { n13 := by kernel_rfl, y13 := by kernel_rfl, c21 := by kernel_rfl, c51 := by kernel_rfl, c206 := by kernel_rfl, c208 := by kernel_rfl }
theorem plainH {w : World} (h : laidMetH Tryz.prog laidL w) : laidMet Tryz.prog laidL w := by
  rw [MakeChecks.laidMetH_plain _ _ _ (by kernel_rfl)] at h
  exact h
theorem tabs_of {w : World} (h : laidMetH Tryz.prog laidL w) : Lib.Utf8Tabs 1 2 w ∧ CaseVar 5 caseA w := by
  have hl := plainH h
  have h1 : VarReads Tryz.prog w "unicode/utf8.first" firstData := by
    have := laidMet.reads hl (n := "unicode/utf8.first") (d := Rows.laid_unicode_utf8_first) (by simp [laidL, Rows.fnNamesAreReadRow])
    rwa [show Rows.laid_unicode_utf8_first = firstData from Pinned.utf8First_eq] at this
  have h2 : VarReads Tryz.prog w "unicode/utf8.acceptRanges" acceptData := by
    have := laidMet.reads hl (n := "unicode/utf8.acceptRanges") (d := Rows.laid_unicode_utf8_acceptRanges) (by simp [laidL, Rows.fnNamesAreReadRow])
    rwa [accept_eq] at this
  have h3 : VarReads Tryz.prog w "unicode.CaseRanges" caseData := by
    have := laidMet.reads hl (n := "unicode.CaseRanges") (d := Rows.laid_unicode_CaseRanges) (by simp [laidL, Rows.fnNamesAreReadRow])
    rwa [show Rows.laid_unicode_CaseRanges = caseData from Pinned.caseRanges_eq] at this
  exact ⟨utf8Tabs_of_reads Tryz.lays260 u8x h1 h2, caseVar_of_reads lays274c (by kernel_rfl) casex h3⟩
/-- What F.told answers at an escape's digits. -/
theorem txt_told (F : Go.Stop.Interp) : TxtLaw F.told := by
  intro c h0 h1
  have hlen := hexL_len c h0 h1
  have ht := told_string F (ask_text c h0 h1) (by simp; omega)
  rw [textOf_list]
  exact ht
theorem tb_of (F : Go.Stop.Interp) {W : World} (hF : F.told.answers W.tape) (hL : laidMetH Tryz.prog laidL W) : TbG F.told W.heap.size W := by
  obtain ⟨h1, h2⟩ := tabs_of hL
  exact ⟨W, Nat.le_refl _, h1, h2, ⟨hF, txt_told F⟩, Below.refl _ _⟩
/-- The world in which the listed variables hold what is listed. -/
noncomputable def laidW (os : Os) : World := World.laidAll Tryz.prog os laidL
theorem laid_met (os : Os) (args : Array Value) : laidMetH Tryz.prog laidL ((laidW os).forCall (fun _ _ => 0) ⟨#[], args, []⟩).memory := by
  rw [MakeChecks.laidMetH_plain _ _ _ (by kernel_rfl)]
  exact laidMet_laidAll _ (by kernel_rfl) (by kernel_rfl)
section
variable {H : Type} {enc : TypeId × Value → H}
/-- There is an input that fits. -/
theorem witness_zip {C : Checked} {os : Os} {f : FuncId} {fn : Func} {s : OpenSpec} {conds : List PathCond} {apart : Bool} {laid : List (String × DataW Unit)} (modest : Bool) (w0 : World) (args : Array Value) (hos : w0.os = os)
    (hv : ∀ tape : Tape, (w0.forCall tape ⟨#[], args, []⟩).variablesZipB C.prog = true)
    (hr : ((w0.forCall (fun _ _ => 0) ⟨#[], args, []⟩).heap.toList.drop C.prog.globals.size).take ((begin C.prog (fun _ _ => 0) default).world.heap.size - C.prog.globals.size) =
      (begin C.prog (fun _ _ => 0) default).world.heap.toList.drop C.prog.globals.size)
    (hok : Input.okWideB C.prog (w0.forCall (fun _ _ => 0) ⟨#[], args, []⟩) f ⟨#[], args, []⟩ = true)
    (hrow : s.preRow enc C.prog fn conds apart laid (w0.forCall (fun _ _ => 0) ⟨#[], args, []⟩).memory args) (F : Stop.Interp) :
    ∃ (w : World) (tape : Tape) (i : Input), w.os = os ∧ (w.forCall tape i).Shaped C.prog ∧ i.vars = [] ∧ Input.okWide C.prog (w.forCall tape i) .any w.heap.size f i ∧
      s.preRow enc C.prog fn conds apart laid (w.forCall tape i).memory i.args ∧ ({ modest := modest } : Assume).holds C.prog (lone (Frame.enter C.prog f i.args .normal) [] (w.forCall tape i)) ∧ F.answers tape :=
  ⟨w0, F.over fun _ _ => 0, ⟨#[], args, []⟩, hos, World.shaped_of_ZipB (w := w0.forCall (F.over fun _ _ => 0) ⟨#[], args, []⟩) (hv _) hr, (Input.okWide_of_okWideB (base := 0) hok).1, (Input.okWide_of_okWideB hok).2, hrow, by
    simp only [Assume.holds]
    exact ⟨by simp, by simp, fun _ => F.over_modest Modest.zero, by simp, by simp⟩, F.over_answers _⟩
end
end Go.Proofs.YtkaejhdncohgpaaGreatFmt
