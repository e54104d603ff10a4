/- printTokens for every row (quoted texts: under the contract of printQuoted). -/
import Derived.Test.YtkaejhdncohgpaaGreatFmtCG
namespace Go.Proofs.YtkaejhdncohgpaaGreatFmt
set_option linter.all false
open Go.RowKit Go.Lib

theorem tokens_all (F : Go.Stop.Interp) (uq : Bool) (hQC : uq = true → QuotC F) (G : Nat) : ∀ (n : Nat) (l : List TD), costL l ≤ n → TokC F uq G l
  | n, [], _ => by
    intro g m a v css sl ind dec w h hr hok hq hb
    obtain ⟨A, cap, rfl, -⟩ := hr.len
    have := tokens_nil F G g m a v css A cap ind dec w h
    simpa [rowT, lastW, firstW] using this
  | 0, t :: r, hn => by have := len_cost (t :: r); simp only [List.length_cons] at this; omega
  | n + 1, t :: r, hn => by
    intro g m a v css sl ind dec w h hr hok hq hb
    exact tokens_x F uq G g m a v css sl t r ind dec w h hr hok hq hb hQC fun l' hl => tokens_all F uq hQC G n l' (by omega)

theorem tokens_any (F : Go.Stop.Interp) (G : Nat) (l : List TD) : TokC F false G l := tokens_all F false (fun h => by cases h) G _ l (Nat.le_refl _)
theorem tokens_q (F : Go.Stop.Interp) (hQC : QuotC F) (G : Nat) (l : List TD) : TokC F true G l := tokens_all F true (fun _ => hQC) G _ l (Nat.le_refl _)

end Go.Proofs.YtkaejhdncohgpaaGreatFmt
