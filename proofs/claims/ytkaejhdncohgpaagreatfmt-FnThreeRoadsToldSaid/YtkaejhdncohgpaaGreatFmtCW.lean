/- Walk: printIdent as the unit of a dimension (join of CV). -/
import Derived.Test.YtkaejhdncohgpaaGreatFmtCV
namespace Go.Proofs.YtkaejhdncohgpaaGreatFmt
set_option linter.all false
open Go.RowKit Go.Lib

theorem iniE_vals (mode : Int) (cs : List Int) (hm : mode = 2 ∨ mode = 3) (hw : wst cs = true) : iniE mode cs = 0 ∨ (mode = 2 ∧ iniE mode cs = 2) := by
  match cs with
  | [] => left; unfold iniE; rw [if_neg (by omega), if_neg (by rw [hw]; decide), if_neg (by omega)]
  | c :: r =>
    rw [iniE_T mode c r hm hw]
    unfold iniT
    match r with
    | [] => left; rfl
    | [d] =>
      simp only
      by_cases q : (c = 101 ∨ c = 69) ∧ mode ≠ 3 ∧ isDig d = true
      · rw [if_pos q]; right; exact ⟨by omega, rfl⟩
      · rw [if_neg q]; left; rfl
    | d :: e :: r =>
      simp only
      by_cases q : (c = 101 ∨ c = 69) ∧ mode ≠ 3 ∧ (isDig d = true ∨ d = 45 ∧ isDig e = true)
      · rw [if_pos q]; right; exact ⟨by omega, rfl⟩
      · rw [if_neg q]; left; rfl

theorem Ident_dim {F : Go.Stop.Interp} {G g : Nat} {m a : Bool} {v : Value} {css : List UInt8} {w : World} (wh : Bool) (mode : Int) (hm : mode = 2 ∨ mode = 3) (s : ByteArray) (cs : List Int) (h : Pn F G w g m a v css) (hc : ∀ c ∈ cs, Scal c) (hs : s.data.toList = encs cs) (hb : css.length + 8 * s.size + 100 ≤ 140737488355328) :
    Calls Tryz.prog 80 #[.pointer (some ⟨g, 0, none⟩), .string s, .int .u8 mode, .int .u8 (if wh then 0 else 1)] w fun e w' => e = .returned (.tuple #[]) ∧ Wr F G g m a v w (css ++ identP a wh (iniE mode cs) cs) w' := by
  cases hw : wst cs
  · have e : iniE mode cs = 1 := by unfold iniE; rw [if_neg (by omega), if_pos hw]
    rw [e]
    rcases hm with rfl | rfl
    · exact ident_d21 F G g m a wh v css s cs w h hc hs hw hb
    · exact ident_d31 F G g m a wh v css s cs w h hc hs hw hb
  · rcases iniE_vals mode cs hm hw with e | ⟨rfl, e⟩
    · rcases hm with rfl | rfl
      · rw [e]; exact ident_d20 F G g m a wh v css s cs w h hc hs hw e hb
      · rw [e]; exact ident_d30 F G g m a wh v css s cs w h hc hs hw e hb
    · rw [e]; exact ident_d22 F G g m a wh v css s cs w h hc hs hw e hb
end Go.Proofs.YtkaejhdncohgpaaGreatFmt
