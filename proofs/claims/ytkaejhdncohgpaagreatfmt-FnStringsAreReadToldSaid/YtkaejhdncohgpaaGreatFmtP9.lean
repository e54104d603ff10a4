/- Plain words: texts in quotes, printed, are read as these texts. No program stands in this file, and no condition. -/
import Derived.Test.YtkaejhdncohgpaaGreatFmtM6
import Derived.Test.YtkaejhdncohgpaaGreatFmtM1
import Derived.Test.YtkaejhdncohgpaaGreatFmtM8
namespace Go.Proofs.YtkaejhdncohgpaaGreatFmt
set_option linter.all false
open Go.RowKit Go.Lib
set_option maxRecDepth 100000

def quotC (a : Bool) (q : Int) : Int → List Int → List Int
  | _, [] => []
  | p, c :: r => escC (qk a q p c r) c r false ++ quotC a q c r
theorem encs_quotC (a : Bool) (q : Int) : ∀ (p : Int) (cs : List Int), (∀ d ∈ cs, Scal d) → encs (quotC a q p cs) = quotT a q p cs
  | _, [], _ => rfl
  | p, c :: r, h => by
    rw [quotC, quotT, encs_app, encs_escC _ _ _ _ (fun d hd => h d (by simp [hd])), encs_quotC a q c r fun d hd => h d (by simp [hd])]
theorem Pl_quotC (a : Bool) (q : Int) : ∀ (p : Int) (cs : List Int), (∀ d ∈ cs, Pl d) → ∀ d ∈ quotC a q p cs, Pl d
  | _, [], _, d, hd => by cases hd
  | p, c :: r, h, d, hd => by
    rw [quotC] at hd
    rcases List.mem_append.1 hd with hd | hd
    · exact Pl_escC _ _ _ _ (h c (by simp)) d hd
    · exact Pl_quotC a q c r (fun d hd => h d (by simp [hd])) d hd
/-- How a code point of a text is printed. -/
theorem qk_cases (a : Bool) (q p c : Int) (r : List Int) : qk a q p c r = 0 ∧ c ≠ q ∧ c ≠ 92 ∧ isNl c = false ∨ qk a q p c r = 1 ∧ hexv c < 0 ∧ isNl c = false ∨ qk a q p c r = 1 ∧ c = q ∧ isNl c = false ∨ qk a q p c r = 2 ∧ (c < 1048576 ∨ a = true) := by
  have hn : ¬ (c = 0 ∨ c = 13 ∨ c = 10 ∨ c = 12) → isNl c = false := fun h => by simp [isNl]; omega
  unfold qk
  by_cases h1 : c = 0 ∨ c = 13 ∨ c = 10 ∨ c = 12
  · rw [if_pos h1]; exact .inr (.inr (.inr ⟨rfl, .inl (by omega)⟩))
  rw [if_neg h1]
  by_cases h2 : c = 92 ∨ c = q
  · rw [if_pos h2]
    rcases h2 with rfl | rfl
    · exact .inr (.inl ⟨rfl, by decide, by decide⟩)
    · exact .inr (.inr (.inl ⟨rfl, rfl, hn h1⟩))
  rw [if_neg h2]
  have h3 : c ≠ q ∧ c ≠ 92 ∧ isNl c = false := ⟨fun e => h2 (.inr e), fun e => h2 (.inl e), hn h1⟩
  by_cases h4 : c = 40 ∨ c = 41 ∨ c = 32 ∨ c = 9 ∨ c = 34 ∨ c = 39
  · rw [if_pos h4]; exact .inl ⟨rfl, h3⟩
  rw [if_neg h4]
  by_cases h5 : c = 47
  · rw [if_pos h5]
    subst h5
    split
    · exact .inr (.inl ⟨rfl, by decide, by decide⟩)
    · exact .inl ⟨rfl, h3⟩
  rw [if_neg h5]
  split
  · rename_i h6
    refine .inr (.inr (.inr ⟨rfl, ?_⟩))
    simp only [Bool.or_eq_true, Bool.and_eq_true, decide_eq_true_eq] at h6
    rcases h6 with ⟨h6, _⟩ | h6
    · exact .inr h6
    · exact .inl (by omega)
  · exact .inl ⟨rfl, h3⟩
theorem quotM_step (k c q : Int) (rest : List Int) (T : Its) (n : Nat) (out : List UInt8) (op : Bool) (hq : q = 34 ∨ q = 39) (hc : Pl c) (hk : k = 0 ∧ c ≠ q ∧ c ≠ 92 ∧ isNl c = false ∨ k = 1 ∧ hexv c < 0 ∧ isNl c = false ∨ k = 2 ∧ c < 1048576)
    (hT : k = 2 → spC rest false = [] → Good T) : quotM (n + 1) q (itL (escC k c rest false) ++ T) out op = quotM n q T (out ++ encd c) op := by
  have hr := Scal_r hc.1
  have q92 : ¬ (92 : Int) = q := by omega
  have n92 : isNl 92 = false := by decide
  unfold escC
  rcases hk with ⟨rfl, h1, h2, h3⟩ | ⟨rfl, h1, h2⟩ | ⟨rfl, h1⟩
  · rw [if_pos rfl, itL_cons, itL_nil, List.cons_append, List.nil_append, quotM, pk_0]
    rw [if_neg h1, if_neg (by omega), h3, if_neg (by decide), if_neg h2]
    rfl
  · rw [if_neg (by decide), if_pos ⟨rfl, h1⟩]
    have hm : escM ((c, (encd c).length) :: T) = (c, T, false) := by
      unfold escM; rw [pk_0, if_pos h1, if_neg (by simp; omega)]; rfl
    simp only [itL_cons, itL_nil, List.cons_append, List.nil_append, quotM, pk_0, pk_s, List.tail_cons, hm]
    rw [if_neg q92, if_neg (by decide), n92, if_neg (by decide), if_pos trivial, if_neg (by omega), h2, if_neg (by decide), Bool.or_false]
  · rw [if_neg (by decide), if_neg (by omega), if_pos (hexL_len5 c hr.1 h1)]
    obtain ⟨d, r, e⟩ := hexI_ne c
    have hd := (hexv_ge d).1 (hexI_hex c d (by rw [e]; simp)).1
    have hm : escM (itL (hexI c) ++ (itL (spC rest false) ++ T)) = (c, T, false) := by
      by_cases hs : spC rest false = []
      · rw [hs, itL_nil, List.nil_append]; exact escM_hex c hc.1 hc.2 T (hT rfl hs)
      · have : spC rest false = [32] := by
          unfold spC at hs ⊢
          split <;> split <;> simp_all
        rw [this]; exact escM_hexb c hc.1 hc.2 T
    have hp1 : pk (itL (hexI c ++ spC rest false) ++ T) 0 = d := by rw [e]; rfl
    have dn : isNl d = false := by simp [isNl]; omega
    rw [List.cons_append, itL_cons, List.cons_append, quotM, pk_0, pk_s, hp1, List.tail_cons]
    rw [if_neg q92, if_neg (by decide), n92, if_neg (by decide), if_pos rfl, if_neg (by omega), dn, if_neg (by decide)]
    rw [itL_app, List.append_assoc, hm, Bool.or_false]
theorem Good_quot (a : Bool) (q p d : Int) (r : List Int) (T : Its) (hd : Pl d) (h : spC (d :: r) false = []) : Good (itL (quotC a q p (d :: r)) ++ T) := by
  have hq : ¬ (d = 32 ∨ d = 9 ∨ 0 ≤ hexv d) := by
    intro q; simp [spC, q] at h
  rw [quotC, itL_app, List.append_assoc]
  by_cases h0 : qk a q p d r = 0
  · have hn : isNl d = false := by
      rcases qk_cases a q p d r with ⟨_, _, _, h⟩ | ⟨h, _⟩ | ⟨h, _⟩ | ⟨h, _⟩
      · exact h
      all_goals omega
    have e : escC (qk a q p d r) d r false = [d] := by rw [h0]; rfl
    rw [e]
    unfold Good
    rw [pk_itL_cons]
    exact ⟨by omega, by simp [isSp, hn]; omega⟩
  · have e : ∃ X, escC (qk a q p d r) d r false = 92 :: X := by
      unfold escC
      rw [if_neg h0]
      split
      · exact ⟨_, rfl⟩
      · exact ⟨_, rfl⟩
    obtain ⟨X, e⟩ := e
    rw [e]
    unfold Good
    rw [pk_itL_cons]
    exact ⟨by decide, by decide⟩
theorem quotM_run (a : Bool) (q : Int) (hq : q = 34 ∨ q = 39) : ∀ (cs : List Int) (p : Int) (T : Its) (n : Nat) (out : List UInt8), (∀ c ∈ cs, Pl c) → (a = true → ∀ c ∈ cs, c < 1048576) → cs.length + 1 ≤ n → quotM n q (itL (quotC a q p cs) ++ ((q, 1) :: T)) out false = (36, out ++ encs cs, T, false)
  | [], p, T, n, out, _, _, hn => by
    obtain ⟨m, rfl⟩ : ∃ m, n = m + 1 := ⟨n - 1, by omega⟩
    rw [quotC, itL_nil, List.nil_append, quotM, pk_0, if_pos rfl, encs_nil, List.append_nil]; rfl
  | c :: r, p, T, n, out, hp, hl, hn => by
    obtain ⟨m, rfl⟩ : ∃ m, n = m + 1 := ⟨n - 1, by omega⟩
    have hc := hp c (by simp)
    rw [quotC, itL_app, List.append_assoc, quotM_step _ _ _ _ _ _ _ _ hq hc ?_ ?_, quotM_run a q hq r c T m _ (fun d hd => hp d (by simp [hd])) (fun ha d hd => hl ha d (by simp [hd])) (by simp at hn; omega), encs_cons, List.append_assoc]
    · rcases qk_cases a q p c r with h | h | ⟨h, h1, h2⟩ | ⟨h, h1⟩
      · exact .inl h
      · exact .inr (.inl h)
      · refine .inr (.inl ⟨h, ?_, h2⟩)
        rw [h1]; rcases hq with rfl | rfl <;> decide
      · refine .inr (.inr ⟨h, ?_⟩)
        rcases h1 with h1 | h1
        · exact h1
        · exact hl h1 c (by simp)
    · intro _ hs
      match r, hs with
      | [], hs =>
        rw [quotC, itL_nil, List.nil_append]
        unfold Good
        rw [pk_0]
        rcases hq with rfl | rfl <;> exact ⟨by decide, by decide⟩
      | d :: r, hs => exact Good_quot a q c d r _ (hp d (by simp)) hs
/-- A text in quotes as code points. -/
def quotsC (a : Bool) (cs : List Int) : List Int := bq cs :: (quotC a (bq cs) 0 cs ++ [bq cs])
theorem encs_quotsC (a : Bool) (cs : List Int) (h : ∀ d ∈ cs, Scal d) : encs (quotsC a cs) = quotP a cs := by
  unfold quotsC quotP
  rw [encs_cons, encs_app, encs_quotC a _ 0 cs h, List.append_assoc, encs_cons, encs_nil, List.append_nil]
theorem lex_str (K : Nat) (a : Bool) (cs T : List Int) (hp : ∀ c ∈ cs, Pl c) (hl : a = true → ∀ c ∈ cs, c < 1048576) (hK : cs.length + 1 ≤ K) : NextR K (itL (quotsC a cs) ++ itL T) false 36 0 false (encs cs) (itL T) false := by
  have hq : bq cs = 34 ∨ bq cs = 39 := (bq_cases cs).symm
  have e1 : (bq cs, (encd (bq cs)).length) = (bq cs, 1) := by rcases hq with h | h <;> rw [h] <;> rfl
  have e : itL (quotsC a cs) ++ itL T = (bq cs, 1) :: (itL (quotC a (bq cs) 0 cs) ++ ((bq cs, 1) :: itL T)) := by
    unfold quotsC
    rw [itL_cons, itL_app, itL_cons, itL_nil, e1]
    simp
  rw [e]
  refine .quoted _ _ ?_ 36 (encs cs) (itL T) false (by decide) ?_
  · rw [pk_0]; exact hq
  · rw [pk_0, List.tail_cons, quotM_run a (bq cs) hq cs 0 (itL T) K [] hp hl hK]
    simp
end Go.Proofs.YtkaejhdncohgpaaGreatFmt
