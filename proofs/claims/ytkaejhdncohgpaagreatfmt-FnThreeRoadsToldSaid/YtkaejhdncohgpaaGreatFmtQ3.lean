/- Plain words: the law of numbers: what a declaration prints of a number, a percentage and a dimension is read as these. No program stands in this file, and no condition. -/
import Derived.Test.YtkaejhdncohgpaaGreatFmtM11
namespace Go.Proofs.YtkaejhdncohgpaaGreatFmt
set_option linter.all false
open Go.RowKit Go.Lib
set_option maxRecDepth 100000

def pNu (n : Nu) : Pc := ⟨30, 0, false, [], n.cs⟩
def pPc (n : Nu) : Pc := ⟨34, 0, false, [], n.cs ++ [37]⟩
def pDi (a : Bool) (n : Nu) (cs : List Int) : Pc := ⟨26, (encs n.cs).length, false, [], n.cs ++ identC a false (iniE (if n.ex = none then 2 else 3) cs) cs⟩
section
variable {K : Nat} {a : Bool} {n : Nu} {cs : List Int} {r : List Pc}
theorem lxNu (h : n.Ok) (hr : LexL K r) (hT : pk (itL (csOf r)) 0 = 32 ∨ pk (itL (csOf r)) 0 = 59) : LexL K (pNu n :: r) :=
  .cons _ _ (fun e => (nu_first n h (itL (csOf r))).2.2.2.2.2 e.1) (lex_num K n h _ hT) hr
theorem lxPc (h : n.Ok) (hr : LexL K r) : LexL K (pPc n :: r) :=
  .cons _ _ (fun e => by
    have e1 := e.1
    rw [show itL (pPc n).cs ++ itL (csOf r) = itL n.cs ++ itL (37 :: csOf r) by rw [show (pPc n).cs = n.cs ++ [37] from rfl, itL_app, List.append_assoc]; rfl] at e1
    exact (nu_first n h _).2.2.2.2.2 e1) (lex_pct K n h _) hr
theorem lxDi (hn : n.Ok) (h : Nm a cs) (hr : LexL K r) (hA : Aft false (csOf r)) (hT : isDig (pk (itL (csOf r)) 0) = false ∧ pk (itL (csOf r)) 0 ≠ 43 ∧ pk (itL (csOf r)) 0 ≠ 45) (hK : cs.length ≤ K) : LexL K (pDi a n cs :: r) :=
  .cons _ _ (fun e => by
    have e1 := e.1
    rw [show itL (pDi a n cs).cs ++ itL (csOf r) = itL n.cs ++ itL (identC a false (iniE (if n.ex = none then 2 else 3) cs) cs ++ csOf r) by rw [show (pDi a n cs).cs = n.cs ++ identC a false (iniE (if n.ex = none then 2 else 3) cs) cs from rfl, itL_app, itL_app, List.append_assoc]] at e1
    exact (nu_first n hn _).2.2.2.2.2 e1) (lex_dim K a false n hn cs _ h hA hT hK) hr
end
theorem pcx_raw {p : Pc} {x : It} (k : Int) (hk : p.k = k) (hx : x.k = k) (h1 : ¬ (k = 29 ∨ k = 27 ∨ k = 1 ∨ k = 28 ∨ k = 36)) (h2 : ¬ (k = 8 ∨ k = 7 ∨ k = 6)) (h3 : k ≠ 26) (e : encs p.cs = x.tx) : PcX p x := by
  subst hx
  exact .raw hk h1 h2 h3 e
theorem nu_sp (n : Nu) (h : n.Ok) (X : List Int) : isSp (pk (itL (n.cs ++ X)) 0) = false := by
  rw [itL_app]; exact (nu_first n h (itL X)).2.1
/-- The nodes of the law of numbers. -/
def ndsU (n : Nu) (cs : List Int) : List ND := [⟨30, 0, 0, encs n.cs, false, true⟩, ⟨34, 0, 0, encs (n.cs ++ [37]), false, true⟩, ⟨26, (encs n.cs).length, 0, encs (n.cs ++ cs), false, false⟩]
def rowNu (a : Bool) (n : Nu) (cs : List Int) : List Pc := [pNu n, pSp, pPc n, pSp, pDi a n cs]
theorem rowNu_lex (K : Nat) (a m : Bool) (n : Nu) (cs : List Int) (hn : n.Ok) (h : Nm a cs) (hK : cs.length ≤ K) : LexL K (rowNu a n cs ++ tlP m) := by
  have e : pk (itL (csOf (tlP m))) 0 = 59 := by rw [csTl]; rfl
  have hA : Aft false (csOf (tlP m)) := by rw [csTl]; exact aft_cons _ _ _ (.inl rfl)
  have hT : isDig (pk (itL (csOf (tlP m))) 0) = false ∧ pk (itL (csOf (tlP m))) 0 ≠ 43 ∧ pk (itL (csOf (tlP m))) 0 ≠ 45 := by rw [e]; decide
  refine lxNu hn (lxSp (lxPc hn (lxSp (lxDi hn h (lxTl K m) hA hT hK) ?_)) ?_) (.inl rfl)
  · show isSp (pk (itL (csOf (pDi a n cs :: _))) 0) = false
    rw [csOf_cons]
    show isSp (pk (itL ((n.cs ++ _) ++ _)) 0) = false
    rw [List.append_assoc]; exact nu_sp n hn _
  · show isSp (pk (itL (csOf (pPc n :: _))) 0) = false
    rw [csOf_cons]
    show isSp (pk (itL ((n.cs ++ [37]) ++ _)) 0) = false
    rw [List.append_assoc]; exact nu_sp n hn _
theorem spl_enc : ∀ (a b : List Int), spl (encs a).length (a ++ b) = (a, b)
  | [], [] => rfl
  | [], c :: r => by simp [encs_nil, spl]
  | c :: r, b => by
    have h := (encd_len c).1
    have hl : (encs (c :: r)).length = (encd c).length + (encs r).length := by rw [encs_cons, List.length_append]
    rw [List.cons_append, spl, if_neg (by omega), hl, Nat.add_sub_cancel_left, spl_enc r b]
theorem hasE_app (a b : List Int) : hasE (a ++ b) = (hasE a || hasE b) := by simp [hasE]
theorem hasE_dig : ∀ (l : List Int), (∀ d ∈ l, isDig d = true) → hasE l = false := by
  intro l h
  unfold hasE
  rw [List.any_eq_false]
  intro d hd
  have := isDig_iff.1 (h d hd)
  simp; omega
theorem hasE_nu (n : Nu) (h : n.Ok) : hasE n.cs = decide (n.ex ≠ none) := by
  unfold Nu.cs
  have h1 : hasE n.sg = false := by rcases h.sg with e | e | e <;> rw [e] <;> rfl
  have h2 := hasE_dig n.w h.w
  have h3 : hasE n.fr = false := by
    unfold Nu.fr
    split
    · rfl
    · have := hasE_dig n.f h.f
      rw [show (46 :: n.f) = [46] ++ n.f from rfl, hasE_app, this]; rfl
  rw [hasE_app, hasE_app, hasE_app, h1, h2, h3]
  unfold Nu.exC
  cases n.ex with
  | none => rfl
  | some x => obtain ⟨s, d⟩ := x; simp [hasE]
theorem nu_scal (n : Nu) (h : n.Ok) : ∀ c ∈ n.cs, Pl c := by
  have lo : ∀ d, isDig d = true → Pl d := fun d hd => by have := isDig_iff.1 hd; exact Pl_lo (by omega) (by omega)
  intro c hc
  unfold Nu.cs at hc
  have sgn : ∀ s : List Int, (s = [] ∨ s = [43] ∨ s = [45]) → c ∈ s → Pl c := by
    intro s hs hc
    rcases hs with e | e | e <;> rw [e] at hc <;> simp at hc <;> subst hc <;> exact Pl_lo (by decide) (by decide)
  rcases List.mem_append.1 hc with hc | hc
  · exact sgn _ h.sg hc
  rcases List.mem_append.1 hc with hc | hc
  · exact lo c (h.w c hc)
  rcases List.mem_append.1 hc with hc | hc
  · unfold Nu.fr at hc
    split at hc
    · cases hc
    · rcases List.mem_cons.1 hc with rfl | hc
      · exact Pl_lo (by decide) (by decide)
      · exact lo c (h.f c hc)
  · unfold Nu.exC at hc
    split at hc
    · cases hc
    · rename_i s d e
      obtain ⟨e1, e2, -⟩ := h.ex s d e
      rcases List.mem_cons.1 hc with rfl | hc
      · exact Pl_lo (by decide) (by decide)
      · rcases List.mem_append.1 hc with hc | hc
        · exact sgn _ e1 hc
        · exact lo c (e2 c hc)
theorem escC_len (k c : Int) (rest : List Int) (last : Bool) : 1 ≤ (escC k c rest last).length := by
  have h := escC_head k c rest last
  cases e : escC k c rest last with
  | nil => rw [e] at h; cases h
  | cons x l => simp
theorem slowC_len (a wh : Bool) : ∀ (cs : List Int), cs.length ≤ (slowC a wh cs).length
  | [] => Nat.le_refl _
  | c :: r => by
    have := slowC_len a wh r
    have := escC_len (esck a c) c r (wh && decide (esck a c ≠ 0) && r.isEmpty)
    rw [slowC, List.length_append, List.length_cons]; omega
theorem identC_len (a wh : Bool) (i : Int) (cs : List Int) : cs.length ≤ (identC a wh i cs).length := by
  match cs with
  | [] => exact Nat.le_refl _
  | c :: r =>
    have := slowC_len a wh r
    have := escC_len (escF a i c) c r (wh && decide (escF a i c ≠ 0) && r.isEmpty)
    rw [identC, List.length_append, List.length_cons]; omega
theorem rowNu_cs (a : Bool) (n : Nu) (cs : List Int) (hn : n.Ok) (h : Nm a cs) : encs (csOf (rowNu a n cs)) = rowT a (firstW ((ndsU n cs).map tdOf)) ((ndsU n cs).map tdOf) := by
  have hsc : ∀ c ∈ cs, Scal c := fun c hc => (h.pl c hc).1
  have hn1 : ∀ c ∈ n.cs, Scal c := fun c hc => (nu_scal n hn c hc).1
  have hn2 : ∀ c ∈ n.cs ++ [37], Scal c := by
    intro c hc
    rcases List.mem_append.1 hc with hc | hc
    · exact hn1 c hc
    · simp at hc; subst hc; unfold Scal; omega
  have hn3 : ∀ c ∈ n.cs ++ cs, Scal c := by
    intro c hc
    rcases List.mem_append.1 hc with hc | hc
    · exact hn1 c hc
    · exact hsc c hc
  have e1 : encs [32] = [32] := by decide
  have e2 : encs [37] = [37] := by decide
  have e3 : (if hasE n.cs = true then (3 : Int) else 2) = if n.ex = none then 2 else 3 := by
    rw [hasE_nu n hn]
    by_cases h0 : n.ex = none
    · simp [h0]
    · simp [h0]
  have e4 : encs (identC a false (iniE (if n.ex = none then 2 else 3) cs) cs) = identP a false (iniE (if n.ex = none then 2 else 3) cs) cs := encs_identC _ _ _ _ hsc
  have e5 : ((encs n.cs).length : Int).toNat = (encs n.cs).length := by simp
  simp only [rowNu, ndsU, List.map, tdOf, wsOf, csOf_cons, pNu, pSp, pPc, pDi, encs_app, e1, e2, e4]
  rw [← encs_app n.cs cs, ← e2, ← encs_app n.cs [37], dcs_encs _ hn1, dcs_encs _ hn2, dcs_encs _ hn3]
  simp [rowT, tokT, optT, coreT, nextW, wsA, wsB, firstW, TD.ws, csOf, encs_nil, spl_enc, e3, encs_app]
theorem rowNu_pl (a m : Bool) (n : Nu) (cs : List Int) (hn : n.Ok) (h : Nm a cs) : AllPl (csOf (rowNu a n cs ++ tlP m)) :=
  ap_cons (nu_scal n hn) (ap_cons ap_Sp (ap_cons (ap_app (nu_scal n hn) (ap_1 37 (by decide) (by decide))) (ap_cons ap_Sp (ap_cons (ap_app (nu_scal n hn) (ap_nm h _ _)) (ap_tl m)))))
theorem rowNu_it (a m s : Bool) (n : Nu) (cs : List Int) (h : Nm a cs) : PcL false s (rowNu a n cs ++ tlP m) (itsOf true false (ndsU n cs) ++ [it59]) := by
  have no : ∀ {P : Prop}, false = true → P := fun e => by cases e
  have hd : PcX (pDi a n cs) ⟨26, (encs n.cs).length, encs (n.cs ++ cs), 1⟩ := by
    have l1 : (encs (pDi a n cs).cs) = encs n.cs ++ encs (identC a false (iniE (if n.ex = none then 2 else 3) cs) cs) := by
      show encs (n.cs ++ _) = _
      rw [encs_app]
    refine .dim rfl rfl rfl ?_ ?_ ?_ ?_
    · rw [l1, List.length_append]; show (encs n.cs).length ≤ _; omega
    · show (encs n.cs).length ≤ (encs (n.cs ++ cs)).length
      rw [encs_app, List.length_append]; omega
    · rw [l1]
      show List.take (encs n.cs).length _ = List.take (encs n.cs).length (encs (n.cs ++ cs))
      rw [encs_app, List.take_left, List.take_left]
    · rw [l1]
      show (nameM _ (its (List.drop (encs n.cs).length _)) [] false).1 = List.drop (encs n.cs).length (encs (n.cs ++ cs))
      rw [encs_app, List.drop_left, List.drop_left, its_itL _ (ap_nm h _ _)]
      refine unit_back _ a false _ cs h ?_
      have h1 := identC_len a false (iniE (if n.ex = none then 2 else 3) cs) cs
      have h2 := len_encs (identC a false (iniE (if n.ex = none then 2 else 3) cs) cs)
      rw [List.length_append]; omega
  exact .cons _ _ _ _ _ (by show (30 : Int) ≠ 38; decide) (pcx_raw 30 rfl rfl (by decide) (by decide) (by decide) rfl) no (.sp _ _ _ _ rfl (.cons _ _ _ _ _ (by show (34 : Int) ≠ 38; decide) (pcx_raw 34 rfl rfl (by decide) (by decide) (by decide) rfl) no (.sp _ _ _ _ rfl
      (.cons _ _ _ _ _ (by show (26 : Int) ≠ 38; decide) hd no (tl_it m _ _)))))
theorem nm_k (a : Bool) : Nm a [107] := ⟨fun c hc => by simp at hc; subst hc; exact Pl_lo (by decide) (by decide), fun _ c hc => by simp at hc; omega, by simp⟩
theorem numbers_decl (K : Nat) (m a : Bool) (n : Nu) (cs : List Int) (hn : n.Ok) (h : Nm a cs) (hK : cs.length ≤ K) (hK1 : 1 ≤ K) : TextOk K (declT m a false [107] ((ndsU n cs).map tdOf)) false (declIt [107] (ndsU n cs)) := by
  have hsc : ∀ c ∈ [(107 : Int)], Scal c := fun c hc => ((nm_k a).pl c hc).1
  have no : ∀ {P : Prop}, false = true → P := fun e => by cases e
  refine ⟨pId a false [107] :: p58 :: (rowNu a n cs ++ tlP m), ?_, ?_, ?_, ?_, ?_⟩
  · rw [csOf_cons, csOf_cons, csOf_app, encs_app, encs_app, encs_app, rowNu_cs a n cs hn h, tl_cs]
    unfold declT
    rw [← encs_identC _ _ _ _ hsc]
    simp only [Bool.false_eq_true, if_false, List.nil_append]
    rfl
  · exact lxId (nm_k a) hK1 (lx58 (rowNu_lex K a m n cs hn h hK)) (aft_cons false 58 _ (.inr (.inl rfl))) (by show (58 : Int) ≠ 40; decide)
  · exact ap_cons (ap_Id (nm_k a) _) (ap_cons (ap_1 _ (by decide) (by decide)) (rowNu_pl a m n cs hn h))
  · rw [csOf_cons]
    exact ident_bom a false _ [107] _ (by simp)
  · exact .cons _ _ _ _ _ (by show (29 : Int) ≠ 38; decide) (.text rfl (.inl rfl) (by show encs [107] = [107]; decide)) no (.cons _ _ _ _ _ (by decide) (.raw rfl (by decide) (by decide) (by decide) (by decide)) no (rowNu_it a m _ n cs h))
end Go.Proofs.YtkaejhdncohgpaaGreatFmt
