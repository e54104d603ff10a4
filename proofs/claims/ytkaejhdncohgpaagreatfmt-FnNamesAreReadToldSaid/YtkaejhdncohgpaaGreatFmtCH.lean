/- printTokens for every row (no units, no quoted texts). -/
import Derived.Test.YtkaejhdncohgpaaGreatFmtCG
namespace Go.Proofs.YtkaejhdncohgpaaGreatFmt
set_option linter.all false
open Go.RowKit Go.Lib

theorem tokens_all (F : Go.Stop.Interp) (G : Nat) : ∀ (n : Nat) (l : List TD), costL l ≤ n → TokC F false G l
  | n, [], _ => by
    intro g m a v css sl ind dec w h hr hok hq hb
    obtain ⟨A, cap, rfl, -⟩ := hr.len
    have := tokens_nil F G g m a v css A cap ind dec w h
    simpa [rowT, lastW, firstW] using this
  | 0, t :: r, hn => by have := len_cost (t :: r); simp only [List.length_cons] at this; omega
  | n + 1, t :: r, hn => by
    intro g m a v css sl ind dec w h hr hok hq hb
    exact tokens_x F false G g m a v css sl t r ind dec w h hr hok hq hb rfl fun l' hl => tokens_all F G n l' (by omega)

theorem tokens_any (F : Go.Stop.Interp) (G : Nat) (l : List TD) : TokC F false G l := tokens_all F G _ l (Nat.le_refl _)

end Go.Proofs.YtkaejhdncohgpaaGreatFmt
