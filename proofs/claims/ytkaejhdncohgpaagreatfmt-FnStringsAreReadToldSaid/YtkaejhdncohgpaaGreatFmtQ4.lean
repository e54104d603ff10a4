/- Plain words: the law of texts in quotes: what a declaration prints of two texts is read as these texts, without whitespace between. No program stands in this file, and no condition. -/
import Derived.Test.YtkaejhdncohgpaaGreatFmtQ3
import Derived.Test.YtkaejhdncohgpaaGreatFmtP9
namespace Go.Proofs.YtkaejhdncohgpaaGreatFmt
set_option linter.all false
open Go.RowKit Go.Lib
set_option maxRecDepth 100000

def pSt (a : Bool) (cs : List Int) : Pc := ⟨36, 0, false, encs cs, quotsC a cs⟩
/-- A text that may be printed in a mode. -/
structure Sm (a : Bool) (cs : List Int) : Prop where
  pl : ∀ c ∈ cs, Pl c
  lo : a = true → ∀ c ∈ cs, c < 1048576
theorem st_first (a : Bool) (cs : List Int) (X : Its) : pk (itL (quotsC a cs) ++ X) 0 = bq cs := rfl
theorem lxSt {K : Nat} {a : Bool} {cs : List Int} {r : List Pc} (h : Sm a cs) (hK : cs.length + 1 ≤ K) (hr : LexL K r) : LexL K (pSt a cs :: r) :=
  .cons _ _ (fun e => by
    have e1 : bq cs = 47 := e.1
    have := bq_cases cs
    omega) (lex_str K a cs _ h.pl h.lo hK) hr
def ndsS (s t : List Int) : List ND := [⟨36, 0, 0, encs s, false, false⟩, ⟨36, 0, 0, encs t, false, false⟩]
theorem rowSt_cs (a : Bool) (s t : List Int) (hs : Sm a s) (ht : Sm a t) : encs (csOf [pSt a s, pSt a t]) = rowT a (firstW ((ndsS s t).map tdOf)) ((ndsS s t).map tdOf) := by
  have h1 : ∀ c ∈ s, Scal c := fun c hc => (hs.pl c hc).1
  have h2 : ∀ c ∈ t, Scal c := fun c hc => (ht.pl c hc).1
  simp only [ndsS, List.map, tdOf, wsOf, csOf_cons, pSt, encs_app, encs_quotsC a s h1, encs_quotsC a t h2, dcs_encs s h1, dcs_encs t h2]
  simp [rowT, tokT, optT, coreT, nextW, wsA, wsB, firstW, TD.ws, csOf, encs_nil]
theorem ap_St {a : Bool} {cs : List Int} (h : Sm a cs) : AllPl (pSt a cs).cs := by
  have hb : AllPl [bq cs] := by
    rcases bq_cases cs with e | e <;> rw [e] <;> exact ap_1 _ (by decide) (by decide)
  exact ap_app (a := [bq cs]) hb (ap_app (Pl_quotC a _ _ cs h.pl) hb)
theorem strings_decl (K : Nat) (m a : Bool) (s t : List Int) (hs : Sm a s) (ht : Sm a t) (hK : s.length + 1 ≤ K) (hK2 : t.length + 1 ≤ K) : TextOk K (declT m a false [107] ((ndsS s t).map tdOf)) true (declIt [107] (ndsS s t)) := by
  have hsc : ∀ c ∈ [(107 : Int)], Scal c := fun c hc => ((nm_k a).pl c hc).1
  refine ⟨pId a false [107] :: p58 :: ([pSt a s, pSt a t] ++ tlP m), ?_, ?_, ?_, ?_, ?_⟩
  · rw [csOf_cons, csOf_cons, csOf_app, encs_app, encs_app, encs_app, rowSt_cs a s t hs ht, tl_cs]
    unfold declT
    rw [← encs_identC _ _ _ _ hsc]
    simp only [Bool.false_eq_true, if_false, List.nil_append]
    rfl
  · exact lxId (nm_k a) (by simp; omega) (lx58 (lxSt hs hK (lxSt ht hK2 (lxTl K m)))) (aft_cons false 58 _ (.inr (.inl rfl))) (by show (58 : Int) ≠ 40; decide)
  · exact ap_cons (ap_Id (nm_k a) _) (ap_cons (ap_1 _ (by decide) (by decide)) (ap_cons (ap_St hs) (ap_cons (ap_St ht) (ap_tl m))))
  · rw [csOf_cons]
    exact ident_bom a false _ [107] _ (by simp)
  · exact .cons _ _ _ _ _ (by show (29 : Int) ≠ 38; decide) (.text rfl (.inl rfl) (by show encs [107] = [107]; decide)) (fun _ => .inl (by decide)) (.cons _ _ _ _ _ (by decide) (.raw rfl (by decide) (by decide) (by decide) (by decide)) (fun _ => .inl (by decide))
      (.cons _ _ _ _ _ (by show (36 : Int) ≠ 38; decide) (.text rfl (.inr (.inr (.inr (.inr rfl)))) rfl) (fun _ => .inl (by show (-1 : Int) < 0; decide)) (.cons _ _ _ _ _ (by show (36 : Int) ≠ 38; decide) (.text rfl (.inr (.inr (.inr (.inr rfl)))) rfl) (fun _ => .inr ⟨by show (0 : Int) ≤ 0; decide, by show false = decide ((0 : Int) = 1); decide⟩) (tl_it m _ _))))
end Go.Proofs.YtkaejhdncohgpaaGreatFmt
