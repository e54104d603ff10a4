/- Plain words: the pieces of a text against the items that are expected; the guards' texts as code points; the law of names; The laws' guards: low, named, IsName, IsURL; Plain words: the law of names: what an at-rule and a declaration print of names is read as these names; The laws' items of an at-rule and of a declaration; Walks: wakes; holds at a text whose pieces are known; IsURL; Plain words: the law of names: the conditions of the walks at its nodes; Walk: the law of names, for every text of at most 2^46 bytes. -/
import Derived.Test.YtkaejhdncohgpaaGreatFmtM6
import Derived.Test.YtkaejhdncohgpaaGreatFmtCJ
import Derived.Test.YtkaejhdncohgpaaGreatFmtLH
import Derived.Test.YtkaejhdncohgpaaGreatFmtLA
import Derived.Test.YtkaejhdncohgpaaGreatFmtM10
import Derived.Test.YtkaejhdncohgpaaGreatFmtCO
import Derived.Laws.OwnMore
/- Plain words: the pieces of a text against the items that are expected; the guards' texts as code points; the law of names. No program stands in this file, and no condition. -/
namespace Go.Proofs.YtkaejhdncohgpaaGreatFmt
set_option linter.all false
open Go.RowKit Go.Lib
set_option maxRecDepth 100000

/-- A piece is an item. -/
inductive PcX (p : Pc) (x : It) : Prop
  | text (hk : p.k = x.k) (h : x.k = 29 ∨ x.k = 27 ∨ x.k = 1 ∨ x.k = 28 ∨ x.k = 36) (e : p.tx = x.tx)
  | close (hk : p.k = x.k) (h : x.k = 8 ∨ x.k = 7 ∨ x.k = 6)
  | raw (hk : p.k = x.k) (h1 : ¬ (x.k = 29 ∨ x.k = 27 ∨ x.k = 1 ∨ x.k = 28 ∨ x.k = 36)) (h2 : ¬ (x.k = 8 ∨ x.k = 7 ∨ x.k = 6)) (h3 : x.k ≠ 26) (e : encs p.cs = x.tx)
  | dim (hk : p.k = x.k) (h : x.k = 26) (hu : (p.un : Int) = x.un) (hl : p.un ≤ (encs p.cs).length) (hl2 : p.un ≤ x.tx.length) (e : (encs p.cs).take p.un = x.tx.take p.un)
      (d : (nameM ((encs p.cs).length + 1) (its ((encs p.cs).drop p.un)) [] false).1 = x.tx.drop p.un)
theorem isR_of (pre : List UInt8) (p : Pc) (post : List UInt8) (x : It) (h : PcX p x) : IsR (pre ++ encs p.cs ++ post) ⟨p.k, pre.length, pre.length + (encs p.cs).length, p.un, p.id, p.tx⟩ x := by
  have e0 := piece_raw pre p post
  cases h with
  | text hk h e => exact .text hk h e
  | close hk h => exact .close hk h
  | raw hk h1 h2 h3 e => exact .raw hk h1 h2 h3 (e0.trans e)
  | dim hk h hu hl hl2 e d =>
    refine .dim hk h hu (by simpa using hl) hl2 ?_ ?_
    · show ((List.drop pre.length _).take (pre.length + (encs p.cs).length - pre.length)).take p.un = _
      rw [e0]; exact e
    · show (nameM ((pre.length + (encs p.cs).length - pre.length) + 1) (its (((List.drop pre.length _).take (pre.length + (encs p.cs).length - pre.length)).drop p.un)) [] false).1 = _
      rw [e0, Nat.add_sub_cancel_left]; exact d
/-- Pieces are items, in order; whitespace is left out. -/
inductive PcL (spc : Bool) : Bool → List Pc → List It → Prop
  | nil (s : Bool) : PcL spc s [] []
  | sp (s : Bool) (p : Pc) (r : List Pc) (xs : List It) (hk : p.k = 38) (hr : PcL spc true r xs) : PcL spc s (p :: r) xs
  | cons (s : Bool) (p : Pc) (x : It) (r : List Pc) (xs : List It) (hk : p.k ≠ 38) (h : PcX p x) (hs : spc = true → x.sp < 0 ∨ 0 ≤ x.sp ∧ s = decide (x.sp = 1)) (hr : PcL spc false r xs) : PcL spc s (p :: r) (x :: xs)
/-- What the comparison asks of a token that was read. -/
def Pq (text : List UInt8) (r : Tk × Bool) (x : It) : Prop := IsR text r.1 x ∧ r.1.st ≤ r.1.en ∧ r.1.en ≤ text.length
theorem mtL_of {spc s : Bool} {l : List Pc} {xs : List It} (h : PcL spc s l xs) : ∀ (pre text : List UInt8), text = pre ++ encs (csOf l) → MtL (Pq text) spc (rdL s (tksOf pre.length l)) xs := by
  induction h with
  | nil s => intro pre text _; exact .nil
  | sp s p r xs hk hr ih =>
    intro pre text ht
    rw [tksOf, rdL, if_pos hk]
    have := ih (pre ++ encs p.cs) text (by rw [ht, csOf_cons, encs_app, List.append_assoc])
    rw [List.length_append] at this
    exact this
  | cons s p x r xs hk h hs hr ih =>
    intro pre text ht
    rw [tksOf, rdL, if_neg hk]
    have := ih (pre ++ encs p.cs) text (by rw [ht, csOf_cons, encs_app, List.append_assoc])
    rw [List.length_append] at this
    have e : text = pre ++ encs p.cs ++ encs (csOf r) := by rw [ht, csOf_cons, encs_app, List.append_assoc]
    refine .cons _ _ _ _ ⟨?_, by simp, ?_⟩ hs this
    · rw [e]; exact isR_of pre p _ x h
    · rw [e]; simp only [List.length_append]; omega

/-! ### The guards -/
theorem plI_encs : ∀ (cs : List Int) (f : Bool), (∀ c ∈ cs, Pl c) → (f = true → cs.head? ≠ some 65279) → plI f (itL cs) = true
  | [], _, _, _ => rfl
  | c :: r, f, h, hf => by
    have hc := h c (by simp)
    rw [itL_cons, plI, plI_encs r false (fun d hd => h d (by simp [hd])) (fun e => by cases e), Bool.and_true]
    refine okC_ok f c (by have := Scal_r hc.1; omega) hc.2 ?_
    cases f
    · exact .inl rfl
    · right; have := hf rfl; simpa using this
theorem plB_encs (cs : List Int) (h : ∀ c ∈ cs, Pl c) (hf : cs.head? ≠ some 65279) : plB (encs cs) = true := by
  unfold plB
  rw [its_itL cs h]
  exact plI_encs cs true h fun _ => hf
theorem fin_m1 (n low : Nat) (o : Option Nat) : (fin n low o).1 ≠ -1 := by
  cases o with
  | none => simp [fin]
  | some c => simp only [fin]; split <;> simp <;> omega
theorem raL_m1 (l : List UInt8) (h : l ≠ []) : (raL l).1 ≠ -1 := by
  match l, h with
  | b :: t, _ =>
    simp only [raL]
    split
    · simp
    split
    · exact fin_m1 _ _ _
    split
    · exact fin_m1 _ _ _
    split
    · exact fin_m1 _ _ _
    · simp
theorem drop_of {l r : List UInt8} {c : Int} {n : Nat} (h : l = encd c ++ r) (hn : n = (encd c).length) : l.drop n = r ∧ l.length = (encd c).length + r.length := by
  subst h hn
  exact ⟨List.drop_left, List.length_append⟩
theorem plI_back : ∀ (n : Nat) (l : List UInt8), l.length ≤ n → plI false (its l) = true → ∃ cs, l = encs cs ∧ ∀ c ∈ cs, Pl c
  | _, [], _, _ => ⟨[], rfl, by simp⟩
  | 0, _ :: _, h, _ => by simp at h
  | n + 1, b :: l, hn, h => by
    have hne : b :: l ≠ [] := by simp
    rw [its_cons _ hne, plI, Bool.and_eq_true] at h
    obtain ⟨h1, h2⟩ := h
    simp [okC] at h1
    have hw := raL_wid (b :: l) hne
    have hr := raL_range (b :: l)
    have hlo : 0 ≤ (raL (b :: l)).1 := by
      rcases Int.lt_or_le (raL (b :: l)).1 0 with hh | hh
      · exfalso
        have : (raL (b :: l)).1 = -1 := by omega
        have h3 := raL_m1 (b :: l) hne
        omega
      · exact hh
    obtain ⟨hs, r, hr1, hr2⟩ := raL_back (b :: l) (raL (b :: l)).1 (raL (b :: l)).2 rfl hlo
    obtain ⟨hd, hlen⟩ := drop_of hr1 hr2
    rw [hd] at h2
    have := (encd_len (raL (b :: l)).1).1
    obtain ⟨cs, hcs, hp⟩ := plI_back n r (by omega) h2
    refine ⟨(raL (b :: l)).1 :: cs, ?_, ?_⟩
    · rw [encs_cons, ← hcs]; exact hr1
    · intro c hc
      rcases List.mem_cons.1 hc with rfl | hc
      · exact ⟨hs, h1.2⟩
      · exact hp c hc
theorem its_120 (l : List UInt8) : its (120 :: l) = (120, 1) :: its l := by
  rw [its_cons _ (by simp)]; rfl
theorem plB_x (l : List UInt8) (h : plB (120 :: l) = true) : ∃ cs, l = encs cs ∧ ∀ c ∈ cs, Pl c := by
  unfold plB at h
  rw [its_120, plI, Bool.and_eq_true] at h
  exact plI_back _ l (Nat.le_refl _) h.2
theorem encd_low (c : Int) (h : Scal c) (hl : lowA (encd c) = true) : c < 1048576 := by
  by_cases h4 : 65536 ≤ c
  · rw [encd4 h4] at hl
    unfold Scal at h
    simp [lowA] at hl
    omega
  · omega
theorem lowA_app (a b : List UInt8) : lowA (a ++ b) = (lowA a && lowA b) := by simp [lowA]
theorem low_encs : ∀ (cs : List Int), (∀ c ∈ cs, Pl c) → lowA (encs cs) = true → ∀ c ∈ cs, c < 1048576
  | [], _, _ => by simp
  | c :: r, h, hl => by
    rw [encs_cons, lowA_app, Bool.and_eq_true] at hl
    intro d hd
    rcases List.mem_cons.1 hd with rfl | hd
    · exact encd_low _ (h _ (by simp)).1 hl.1
    · exact low_encs r (fun x hx => h x (by simp [hx])) hl.2 d hd
/-- A text that may be printed as a name. -/
def namedB (l : List UInt8) (a : Bool) : Bool := decide (l.length ≤ 1048576) && nmB l && (!a || lowA l)
theorem named_nm {l : List UInt8} {a : Bool} (h : namedB l a = true) : ∃ cs, l = encs cs ∧ Nm a cs ∧ (encs cs).length ≤ 1048576 := by
  unfold namedB nmB at h
  simp only [Bool.and_eq_true, decide_eq_true_eq, Bool.not_eq_true', List.isEmpty_eq_false_iff, Bool.or_eq_true] at h
  obtain ⟨⟨h1, h2, h3⟩, h4⟩ := h
  obtain ⟨cs, rfl, hp⟩ := plB_x l h3
  refine ⟨cs, rfl, ⟨hp, fun ha => ?_, fun e => h2 (by rw [e]; rfl)⟩, h1⟩
  rcases h4 with h4 | h4
  · rw [ha] at h4; cases h4
  · exact low_encs cs hp h4
theorem len_encs : ∀ cs : List Int, cs.length ≤ (encs cs).length
  | [] => by simp [encs_nil]
  | c :: r => by have := len_encs r; have := (encd_len c).1; rw [encs_cons, List.length_append, List.length_cons]; omega
end Go.Proofs.YtkaejhdncohgpaaGreatFmt

/- The laws' guards: low, named, IsName, IsURL. Condition: the text has at most 2^46 bytes. -/
namespace Go.Proofs.YtkaejhdncohgpaaGreatFmt
set_option linter.all false
open Go.RowKit
set_option maxRecDepth 100000
set_option maxHeartbeats 1000000

theorem low_any (s : ByteArray) (a : Bool) (w : World) (hs : s.size ≤ 140737488355328) : Calls Tryz.prog 17 #[.string s, .bool a] w fun e w' => e = .returned (.bool (!a || lowA s.data.toList)) ∧ w' = w := by
  have HL := Lib.hid (Low_any s w hs)
  cases a
  · go_enter Tryz.func17, Tryz.ntmps17
    go_wp2
    go_ret
    exact ⟨rfl, rfl⟩
  · go_enter Tryz.func17, Tryz.ntmps17
    go_wp2_with (go_at_call 32; refine HL.out.mono ?_; rintro e w' ⟨rfl, rfl⟩)
    go_ret
    exact ⟨ret_bool (by simp), rfl⟩
theorem IsName_any (s : ByteArray) (w : World) (hs : s.size ≤ 140737488355000) : Calls Tryz.prog 22 #[.string s] w fun e w' => e = .returned (.bool (nmB s.data.toList)) ∧ w' = w := by
  have HL := Lib.hid (isName_any s w hs)
  go_enter Tryz.func22, Tryz.ntmps22
  go_wp2_with (go_at_call 37; refine HL.out.mono ?_; rintro e w' ⟨rfl, rfl⟩)
  go_ret
  exact ⟨rfl, rfl⟩
theorem named_any (s : ByteArray) (a : Bool) (w : World) (hs : s.size ≤ 140737488355000) : Calls Tryz.prog 7 #[.string s, .bool a] w fun e w' => e = .returned (.bool (namedB s.data.toList a)) ∧ w' = w := by
  have HL := Lib.hid (low_any s a w (by omega))
  have HN := Lib.hid (IsName_any s w hs)
  have hz : s.data.toList.length = s.size := by simp
  by_cases h1 : s.size ≤ 1048576
  · have hd : decide (s.data.toList.length ≤ 1048576) = true := by simpa [hz] using h1
    cases hn : nmB s.data.toList
    · have HR : Hid (namedB s.data.toList a = false) := Lib.hid (by unfold namedB; rw [hd, hn]; rfl)
      rw [hn] at HN
      clear hz hd
      go_enter Tryz.func7, Tryz.ntmps7
      go_wp2_with (first | (go_at_call 22; refine HN.out.mono ?_; rintro e w' ⟨rfl, rfl⟩))
      go_ret
      exact ⟨ret_bool HR.out.symm, rfl⟩
    · have HR : Hid (namedB s.data.toList a = (!a || lowA s.data.toList)) := Lib.hid (by unfold namedB; rw [hd, hn]; rfl)
      rw [hn] at HN
      clear hz hd
      go_enter Tryz.func7, Tryz.ntmps7
      go_wp2_with (first | (go_at_call 22; refine HN.out.mono ?_; rintro e w' ⟨rfl, rfl⟩) | (go_at_call 17; refine HL.out.mono ?_; rintro e w' ⟨rfl, rfl⟩))
      go_ret
      exact ⟨ret_bool HR.out.symm, rfl⟩
  · have hd : decide (s.data.toList.length ≤ 1048576) = false := by simpa [hz] using h1
    have HR : Hid (namedB s.data.toList a = false) := Lib.hid (by unfold namedB; rw [hd]; rfl)
    clear hz hd
    go_enter Tryz.func7, Tryz.ntmps7
    go_wp2
    go_ret
    exact ⟨ret_bool HR.out.symm, rfl⟩
end Go.Proofs.YtkaejhdncohgpaaGreatFmt

/- Plain words: the law of names: what an at-rule and a declaration print of names is read as these names. No program stands in this file, and no condition. -/
namespace Go.Proofs.YtkaejhdncohgpaaGreatFmt
set_option linter.all false
open Go.RowKit Go.Lib
set_option maxRecDepth 100000

theorem ident_first (a wh : Bool) (cs : List Int) (T : Its) (h : Nm a cs) (hT : pk T 0 ≠ 62) (mode : Int) (hm : mode = 0 ∨ mode = 2 ∨ mode = 3) :
    pk (itL (identC a wh (iniE mode cs) cs) ++ T) 0 ≠ 47 ∧ isSp (pk (itL (identC a wh (iniE mode cs) cs) ++ T) 0) = false := by
  match cs, h with
  | [], h => exact absurd rfl h.ne
  | c :: r, h =>
    obtain ⟨h1, -⟩ := idents_ident a wh c r T h.pl hT mode hm
    obtain ⟨-, n2, -, -, -, -, n7⟩ := idents_not h1
    exact ⟨n7, n2⟩
theorem escC_head (k c : Int) (rest : List Int) (last : Bool) : (escC k c rest last).head? = some (if k = 0 then c else 92) := by
  unfold escC
  by_cases h0 : k = 0
  · rw [if_pos h0, if_pos h0]; rfl
  rw [if_neg h0, if_neg h0]
  split <;> rfl
theorem ident_bom (a wh : Bool) (i : Int) (cs X : List Int) (hne : cs ≠ []) : (identC a wh i cs ++ X).head? ≠ some 65279 := by
  match cs, hne with
  | c :: r, _ =>
    rw [identC, List.append_assoc, List.head?_append, escC_head]
    simp only [Option.some_or, ne_eq, Option.some.injEq]
    intro e
    split at e
    · rename_i h0
      subst e
      unfold escF at h0
      rw [if_pos (by cases a <;> decide)] at h0
      cases h0
    · cases e

def pAt (a wh : Bool) (cs : List Int) : Pc := ⟨1, 0, false, encs cs, 64 :: identC a wh (iniE 0 cs) cs⟩
def pId (a wh : Bool) (cs : List Int) : Pc := ⟨29, 0, false, encs cs, identC a wh (iniE 0 cs) cs⟩
def pHa (a wh id : Bool) (cs : List Int) : Pc := ⟨28, 0, id, encs cs, 35 :: identC a wh 0 cs⟩
def pFn (a wh : Bool) (cs : List Int) : Pc := ⟨27, 0, false, encs cs, identC a wh (iniE 0 cs) cs ++ [40]⟩
def pSp : Pc := ⟨38, 0, false, [], [32]⟩
def pNl : Pc := ⟨38, 0, false, [], [10]⟩
def p41 : Pc := ⟨8, 0, false, [], [41]⟩
def p58 : Pc := ⟨9, 0, false, [], [58]⟩
def p59 : Pc := ⟨35, 0, false, [], [59]⟩

section
variable {K : Nat} {a wh : Bool} {cs : List Int} {r : List Pc}
theorem lxId (h : Nm a cs) (hK : cs.length ≤ K) (hr : LexL K r) (hA : Aft wh (csOf r)) (hp : pk (itL (csOf r)) 0 ≠ 40) : LexL K (pId a wh cs :: r) :=
  .cons _ _ (fun e => (ident_first a wh cs _ h hA.2 0 (.inl rfl)).1 e.1) (lex_ident K a wh cs _ h hA hp hK) hr
theorem lxFn (h : Nm a cs) (hu : isUrlB (encs cs) = false) (hK : cs.length ≤ K) (hr : LexL K r) : LexL K (pFn a wh cs :: r) :=
  .cons _ _ (fun e => by
    have e1 := e.1
    have e2 : itL (pFn a wh cs).cs ++ itL (csOf r) = itL (identC a wh (iniE 0 cs) cs) ++ itL (40 :: csOf r) := by
      show itL (identC a wh (iniE 0 cs) cs ++ [40]) ++ itL (csOf r) = _
      rw [itL_app, List.append_assoc]; rfl
    rw [e2] at e1
    exact (ident_first a wh cs _ h (by rw [show pk (itL (40 :: csOf r)) 0 = 40 from rfl]; decide) 0 (.inl rfl)).1 e1) (lex_func K a wh cs _ h hu hK) hr
theorem lxHa (h : Nm a cs) (hK : cs.length ≤ K) (hr : LexL K r) (hA : Aft wh (csOf r)) : ∃ id, LexL K (pHa a wh id cs :: r) := by
  obtain ⟨id, hn⟩ := lex_hash K a wh cs (csOf r) h hA hK
  exact ⟨id, .cons _ _ (fun e => absurd e.1 (by rw [show pk (itL (pHa a wh id cs).cs ++ itL (csOf r)) 0 = 35 from rfl]; decide)) hn hr⟩
theorem lxAt (h : Nm a cs) (hK : cs.length ≤ K) (hr : LexL K r) (hA : Aft wh (csOf r)) : LexL K (pAt a wh cs :: r) :=
  .cons _ _ (fun e => absurd e.1 (by rw [show pk (itL (pAt a wh cs).cs ++ itL (csOf r)) 0 = 64 from rfl]; decide)) (lex_at K a wh cs _ h hA hK) hr
theorem lxSp (hr : LexL K r) (h : isSp (pk (itL (csOf r)) 0) = false) : LexL K (pSp :: r) :=
  .cons _ _ (fun e => absurd e.1 (by rw [show pk (itL pSp.cs ++ itL (csOf r)) 0 = 32 from rfl]; decide)) (lex_space K _ h) hr
theorem lxNl : LexL K [pNl] :=
  .cons _ _ (fun e => absurd e.1 (by rw [show pk (itL pNl.cs ++ itL (csOf [])) 0 = 10 from rfl]; decide)) (lex_nl K [] (by decide)) .nil
theorem lx41 (hr : LexL K r) : LexL K (p41 :: r) := .cons _ _ (fun e => absurd e.1 (by rw [show pk (itL p41.cs ++ itL (csOf r)) 0 = 41 from rfl]; decide)) (lex_c41 K _) hr
theorem lx58 (hr : LexL K r) : LexL K (p58 :: r) := .cons _ _ (fun e => absurd e.1 (by rw [show pk (itL p58.cs ++ itL (csOf r)) 0 = 58 from rfl]; decide)) (lex_c58 K _) hr
theorem lx59 (hr : LexL K r) : LexL K (p59 :: r) := .cons _ _ (fun e => absurd e.1 (by rw [show pk (itL p59.cs ++ itL (csOf r)) 0 = 59 from rfl]; decide)) (lex_c59 K _) hr
end
/-- The end of a rule. -/
def tlP (m : Bool) : List Pc := p59 :: if m then [] else [pNl]
theorem lxTl (K : Nat) (m : Bool) : LexL K (tlP m) := by
  unfold tlP
  cases m
  · exact lx59 lxNl
  · exact lx59 .nil
theorem csTl (m : Bool) : csOf (tlP m) = 59 :: if m then [] else [10] := by cases m <;> rfl
/-- The nodes of the law of names. -/
def ndsN (cs : List Int) (fn : Bool) : List ND := ⟨29, 0, 0, encs cs, false, true⟩ :: ⟨28, 0, 0, encs cs, false, true⟩ :: ⟨1, 0, 0, encs cs, false, false⟩ :: if fn then [⟨27, 0, 0, encs cs, true, false⟩] else []
def rowPc (a id fn : Bool) (cs : List Int) : List Pc := pId a true cs :: pSp :: pHa a true id cs :: pSp :: pAt a fn cs :: if fn then [pSp, pFn a false cs, p41] else []
theorem csOf_app (a b : List Pc) : csOf (a ++ b) = csOf a ++ csOf b := by simp [csOf]
theorem row_lex (K : Nat) (a fn m : Bool) (cs : List Int) (h : Nm a cs) (hK : cs.length ≤ K) (hfn : fn = true → isUrlB (encs cs) = false) : ∃ id, LexL K (rowPc a id fn cs ++ tlP m) := by
  have hs1 : ∀ (wh : Bool) (T : List Int), pk (itL T) 0 ≠ 62 → isSp (pk (itL (identC a wh (iniE 0 cs) cs ++ T)) 0) = false := by
    intro wh T hT
    rw [itL_app]
    exact (ident_first a wh cs _ h hT 0 (.inl rfl)).2
  have hA : LexL K (pAt a fn cs :: ((if fn then [pSp, pFn a false cs, p41] else []) ++ tlP m)) := by
    cases fn
    · exact lxAt h hK (lxTl K m) (by rw [show csOf ((if false = true then [pSp, pFn a false cs, p41] else []) ++ tlP m) = csOf (tlP m) from rfl, csTl]; exact aft_cons _ _ _ (.inl rfl))
    · refine lxAt h hK (lxSp (lxFn h (hfn rfl) hK (lx41 (lxTl K m))) ?_) (aft_cons true 32 _ (.inr (.inr (.inr (.inr ⟨rfl, rfl⟩)))))
      show isSp (pk (itL (csOf (pFn a false cs :: _))) 0) = false
      rw [csOf_cons]
      show isSp (pk (itL (identC a false (iniE 0 cs) cs ++ [40] ++ _)) 0) = false
      rw [List.append_assoc]
      exact hs1 _ _ (by show (40 : Int) ≠ 62; decide)
  obtain ⟨id, hH⟩ := lxHa (wh := true) h hK (lxSp hA rfl) (aft_cons true 32 _ (.inr (.inr (.inr (.inr ⟨rfl, rfl⟩)))))
  exact ⟨id, lxId h hK (lxSp hH rfl) (aft_cons true 32 _ (.inr (.inr (.inr (.inr ⟨rfl, rfl⟩))))) (by show (32 : Int) ≠ 40; decide)⟩
theorem tds_n (cs : List Int) (fn : Bool) (hsc : ∀ c ∈ cs, Scal c) : (ndsN cs fn).map tdOf = .mk 29 cs 2 0 none :: .mk 28 cs 2 0 none :: .mk 1 cs 0 0 none :: if fn then [.mk 27 cs 1 0 (some [])] else [] := by
  cases fn <;> simp [ndsN, tdOf, wsOf, dcs_encs cs hsc]
theorem row_cs (a id fn : Bool) (cs : List Int) (h : Nm a cs) : encs (csOf (rowPc a id fn cs)) = rowT a (firstW ((ndsN cs fn).map tdOf)) ((ndsN cs fn).map tdOf) := by
  have hsc : ∀ c ∈ cs, Scal c := fun c hc => (h.pl c hc).1
  have e1 : encs [32] = [32] := by decide
  have e2 : ∀ x, encs (64 :: x) = 64 :: encs x := fun x => rfl
  have e3 : ∀ x, encs (35 :: x) = 35 :: encs x := fun x => rfl
  have e4 : encs [40] = [40] := by decide
  have e5 : encs [41] = [41] := by decide
  rw [tds_n cs fn hsc]
  cases fn
  · simp only [rowPc, csOf_cons, pId, pSp, pHa, pAt, encs_app, encs_identC _ _ _ _ hsc, e1, e2, e3]
    simp [rowT, tokT, optT, coreT, nextW, wsA, wsB, firstW, TD.ws, csOf, encs_nil]
  · simp only [rowPc, csOf_cons, pId, pSp, pHa, pAt, pFn, p41, if_true, encs_app, encs_identC _ _ _ _ hsc, e1, e2, e3, e4, e5]
    simp [rowT, tokT, optT, coreT, nextW, wsA, wsB, firstW, TD.ws, csOf, encs_nil, closeT]
theorem tl_cs (m : Bool) : encs (csOf (tlP m)) = 59 :: if m then [] else [10] := by cases m <;> decide
/-- All are code points that a plain text may have. -/
def AllPl (l : List Int) : Prop := ∀ c ∈ l, Pl c
theorem ap_cons {p : Pc} {r : List Pc} (h1 : AllPl p.cs) (h2 : AllPl (csOf r)) : AllPl (csOf (p :: r)) := by
  intro c hc
  rw [csOf_cons] at hc
  rcases List.mem_append.1 hc with hc | hc
  · exact h1 c hc
  · exact h2 c hc
theorem ap_1 (x : Int) (h0 : 0 < x) (h1 : x < 128) : AllPl [x] := by
  intro c hc
  obtain rfl : c = x := by simpa using hc
  exact Pl_lo h0 h1
theorem ap_app {a b : List Int} (h1 : AllPl a) (h2 : AllPl b) : AllPl (a ++ b) := by
  intro c hc
  rcases List.mem_append.1 hc with hc | hc
  · exact h1 c hc
  · exact h2 c hc
theorem ap_nm {a : Bool} {cs : List Int} (h : Nm a cs) (wh : Bool) (i : Int) : AllPl (identC a wh i cs) := Pl_identC a wh i cs h.pl
theorem ap_At {a : Bool} {cs : List Int} (h : Nm a cs) (wh : Bool) : AllPl (pAt a wh cs).cs := ap_app (a := [64]) (ap_1 _ (by decide) (by decide)) (ap_nm h wh _)
theorem ap_Id {a : Bool} {cs : List Int} (h : Nm a cs) (wh : Bool) : AllPl (pId a wh cs).cs := ap_nm h wh _
theorem ap_Ha {a : Bool} {cs : List Int} (h : Nm a cs) (wh id : Bool) : AllPl (pHa a wh id cs).cs := ap_app (a := [35]) (ap_1 _ (by decide) (by decide)) (ap_nm h wh _)
theorem ap_Fn {a : Bool} {cs : List Int} (h : Nm a cs) (wh : Bool) : AllPl (pFn a wh cs).cs := ap_app (ap_nm h wh _) (ap_1 _ (by decide) (by decide))
theorem ap_Sp : AllPl pSp.cs := ap_1 _ (by decide) (by decide)
theorem ap_tl (m : Bool) : AllPl (csOf (tlP m)) := by
  cases m
  · exact ap_cons (ap_1 _ (by decide) (by decide)) (ap_cons (ap_1 _ (by decide) (by decide)) (by intro c hc; cases hc))
  · exact ap_cons (ap_1 _ (by decide) (by decide)) (by intro c hc; cases hc)
theorem row_pl (a id fn m : Bool) (cs : List Int) (h : Nm a cs) : AllPl (csOf (rowPc a id fn cs ++ tlP m)) := by
  cases fn
  · exact ap_cons (ap_Id h _) (ap_cons ap_Sp (ap_cons (ap_Ha h _ _) (ap_cons ap_Sp (ap_cons (ap_At h _) (ap_tl m)))))
  · exact ap_cons (ap_Id h _) (ap_cons ap_Sp (ap_cons (ap_Ha h _ _) (ap_cons ap_Sp (ap_cons (ap_At h _) (ap_cons ap_Sp (ap_cons (ap_Fn h _) (ap_cons (ap_1 _ (by decide) (by decide)) (ap_tl m))))))))

/-! ### The items -/
def it59 : It := ⟨35, 0, [59], -1⟩
theorem tl_it (m s spc : Bool) : PcL spc s (tlP m) [it59] := by
  have h : PcX p59 it59 := .raw rfl (by decide) (by decide) (by decide) (by decide)
  cases m
  · exact .cons _ _ _ _ _ (by decide) h (fun _ => .inl (by decide)) (.sp _ _ _ _ rfl (.nil _))
  · exact .cons _ _ _ _ _ (by decide) h (fun _ => .inl (by decide)) (.nil _)
theorem row_it (a id fn m s : Bool) (cs : List Int) : PcL false s (rowPc a id fn cs ++ tlP m) (itsOf true false (ndsN cs fn) ++ [it59]) := by
  have no : ∀ {P : Prop}, false = true → P := fun e => by cases e
  cases fn
  · exact .cons _ _ _ _ _ (by show (29 : Int) ≠ 38; decide) (.text rfl (.inl rfl) rfl) no (.sp _ _ _ _ rfl (.cons _ _ _ _ _ (by show (28 : Int) ≠ 38; decide) (.text rfl (.inr (.inr (.inr (.inl rfl)))) rfl) no (.sp _ _ _ _ rfl
      (.cons _ _ _ _ _ (by show (1 : Int) ≠ 38; decide) (.text rfl (.inr (.inr (.inl rfl))) rfl) no (tl_it m _ _)))))
  · exact .cons _ _ _ _ _ (by show (29 : Int) ≠ 38; decide) (.text rfl (.inl rfl) rfl) no (.sp _ _ _ _ rfl (.cons _ _ _ _ _ (by show (28 : Int) ≠ 38; decide) (.text rfl (.inr (.inr (.inr (.inl rfl)))) rfl) no (.sp _ _ _ _ rfl
      (.cons _ _ _ _ _ (by show (1 : Int) ≠ 38; decide) (.text rfl (.inr (.inr (.inl rfl))) rfl) no (.sp _ _ _ _ rfl (.cons _ _ _ _ _ (by show (27 : Int) ≠ 38; decide) (.text rfl (.inr (.inl rfl)) rfl) no
        (.cons _ _ _ _ _ (by decide) (.close rfl (.inl rfl)) no (tl_it m _ _))))))))
/-- A text is read as items. -/
def TextOk (K : Nat) (text : List UInt8) (spc : Bool) (xs : List It) : Prop := ∃ ps : List Pc, text = encs (csOf ps) ∧ LexL K ps ∧ AllPl (csOf ps) ∧ (csOf ps).head? ≠ some 65279 ∧ PcL spc false ps xs
/-- The items of an at-rule, of a declaration. -/
def atIt (name : List UInt8) (nds : List ND) : List It := ⟨1, 0, name, -1⟩ :: (itsOf true false nds ++ [it59])
def declIt (key : List UInt8) (nds : List ND) : List It := ⟨29, 0, key, -1⟩ :: ⟨9, 0, [58], -1⟩ :: (itsOf true false nds ++ [it59])
theorem names_at (K : Nat) (m a fn : Bool) (cs : List Int) (h : Nm a cs) (hK : cs.length ≤ K) (hfn : fn = true → isUrlB (encs cs) = false) : TextOk K (atT m a cs ((ndsN cs fn).map tdOf)) false (atIt (encs cs) (ndsN cs fn)) := by
  obtain ⟨id, hl⟩ := row_lex K a fn m cs h hK hfn
  have hsc : ∀ c ∈ cs, Scal c := fun c hc => (h.pl c hc).1
  have no : ∀ {P : Prop}, false = true → P := fun e => by cases e
  refine ⟨pAt a true cs :: pSp :: (rowPc a id fn cs ++ tlP m), ?_, ?_, ?_, ?_, ?_⟩
  · rw [csOf_cons, csOf_cons, csOf_app, encs_app, encs_app, encs_app, row_cs a id fn cs h, tl_cs]
    have e : decide ((ndsN cs fn).map tdOf ≠ []) = true := by simp [ndsN]
    have e2 : (if (ndsN cs fn).map tdOf = [] then ([] : List UInt8) else [32]) = [32] := by simp [ndsN]
    unfold atT
    rw [e, e2]
    show _ = 64 :: _
    rw [← encs_identC _ _ _ _ hsc]
    show 64 :: encs (identC a true (iniE 0 cs) cs) ++ _ = _
    rfl
  · refine lxAt h hK (lxSp hl ?_) (aft_cons true 32 _ (.inr (.inr (.inr (.inr ⟨rfl, rfl⟩)))))
    rw [csOf_app]
    show isSp (pk (itL (csOf (pId a true cs :: _) ++ _)) 0) = false
    rw [csOf_cons, List.append_assoc, itL_app]
    exact (ident_first a true cs _ h (by show (32 : Int) ≠ 62; decide) 0 (.inl rfl)).2
  · exact ap_cons (ap_At h _) (ap_cons ap_Sp (row_pl a id fn m cs h))
  · show some 64 ≠ some 65279
    decide
  · exact .cons _ _ _ _ _ (by show (1 : Int) ≠ 38; decide) (.text rfl (.inr (.inr (.inl rfl))) rfl) no (.sp _ _ _ _ rfl (row_it a id fn m _ cs))
theorem names_decl (K : Nat) (m a fn : Bool) (cs : List Int) (h : Nm a cs) (hK : cs.length ≤ K) (hfn : fn = true → isUrlB (encs cs) = false) : TextOk K (declT m a false cs ((ndsN cs fn).map tdOf)) false (declIt (encs cs) (ndsN cs fn)) := by
  obtain ⟨id, hl⟩ := row_lex K a fn m cs h hK hfn
  have hsc : ∀ c ∈ cs, Scal c := fun c hc => (h.pl c hc).1
  have no : ∀ {P : Prop}, false = true → P := fun e => by cases e
  refine ⟨pId a false cs :: p58 :: (rowPc a id fn cs ++ tlP m), ?_, ?_, ?_, ?_, ?_⟩
  · rw [csOf_cons, csOf_cons, csOf_app, encs_app, encs_app, encs_app, row_cs a id fn cs h, tl_cs]
    unfold declT
    rw [← encs_identC _ _ _ _ hsc]
    simp only [Bool.false_eq_true, if_false, List.nil_append]
    rfl
  · exact lxId h hK (lx58 hl) (aft_cons false 58 _ (.inr (.inl rfl))) (by show (58 : Int) ≠ 40; decide)
  · exact ap_cons (ap_Id h _) (ap_cons (ap_1 _ (by decide) (by decide)) (row_pl a id fn m cs h))
  · rw [csOf_cons]
    exact ident_bom a false _ cs _ h.ne
  · exact .cons _ _ _ _ _ (by show (29 : Int) ≠ 38; decide) (.text rfl (.inl rfl) rfl) no (.cons _ _ _ _ _ (by decide) (.raw rfl (by decide) (by decide) (by decide) (by decide)) no (row_it a id fn m _ cs))
/-- What the program's comparison needs of such a text. -/
theorem TextOk.rd {K : Nat} {text : List UInt8} {spc : Bool} {xs : List It} (h : TextOk K text spc xs) : ∃ ts, TokR K text.length (its text) false ts false ∧ plB text = true ∧ MtL (Pq text) spc (rdL false ts) xs := by
  obtain ⟨ps, rfl, h1, h2, h3, h4⟩ := h
  refine ⟨tksOf 0 ps, ?_, plB_encs _ h2 h3, mtL_of h4 [] _ rfl⟩
  rw [its_itL _ h2]
  exact tokR_of h1 0 _ (by simp)
end Go.Proofs.YtkaejhdncohgpaaGreatFmt

/- The laws' items of an at-rule and of a declaration. Condition: nodes at the top, with one function without anything in it at their end at most; there is one at least. -/
namespace Go.Proofs.YtkaejhdncohgpaaGreatFmt
set_option linter.all false
open Go.RowKit
set_option maxRecDepth 100000
set_option maxHeartbeats 4000000

theorem bstr_data (s : ByteArray) : bstr s.data.toList = s := rfl
theorem icell_len (l : List It) : (l.flatMap icell).length = l.length * 4 := by
  induction l with
  | nil => rfl
  | cons x l ih => rw [List.flatMap_cons, List.length_append, ih, List.length_cons]; simp [icell]; omega
theorem icell_one (l : List It) : ∀ u ∈ l.flatMap icell, u.oneCell' = true := by
  intro u hu
  obtain ⟨x, -, hx⟩ := List.mem_flatMap.1 hu
  simp [icell] at hx
  rcases hx with rfl | rfl | rfl | rfl <;> rfl
theorem itsOf_len : ∀ (f la : Bool) (l : List ND), (itsOf f la l).length ≤ 2 * l.length
  | _, _, [] => by simp [itsOf]
  | f, la, n :: r => by
    have := itsOf_len false n.af r
    rw [itsOf, List.length_cons, List.length_append, List.length_cons]
    have h : (if n.k = 27 then [(⟨8, 0, [], -1⟩ : It)] else []).length ≤ 1 := by split <;> simp
    omega
theorem itsOf_ne (f la : Bool) (l : List ND) (h : l ≠ []) : 0 < (itsOf f la l).length := by
  cases l with
  | nil => exact absurd rfl h
  | cons n r => rw [itsOf, List.length_cons]; omega
/-- Cells of a row that lies in memory. -/
theorem own_cells {w : World} {B e : Nat} {g cap n : Nat} {xs : List Value} (h : w.ownsRow B e 4 (.slice (some ⟨g, 0, none⟩) n cap) n xs) : ∀ j u, xs[j]? = some u → w.cell? ((⟨g, 0, none⟩ : Addr).add j) = some u := h.cells rfl

theorem at_any (name : ByteArray) (l : List ND) (B : Nat) (v : Value) (w : World) (hx : w.ownsRow B 25 6 v l.length (l.flatMap ND.cells)) (hl : l.length ≤ 1000000) (hf : Flt l) (hne : l ≠ []) :
    Calls Tryz.prog 12 #[.string name, v] w fun e w' => ∃ v', e = .returned v' ∧ w'.ownsRow w.heap.size 54 4 v' (atIt name.data.toList l).length ((atIt name.data.toList l).flatMap icell) ∧ Kp (fun _ => False) w w' := by
  obtain ⟨Ax, cx, rfl⟩ := own_nil hx rfl
  have hk1 : Kp (fun _ => False) w (w.alloc (.cells #[.int .i64 1, .int .i64 0, .string name, .int .i64 (-1)] 54)) := (Kp.refl _ w).alloc _
  have hO1 : (w.alloc (.cells #[.int .i64 1, .int .i64 0, .string name, .int .i64 (-1)] 54)).ownsRow w.heap.size 54 4 (.slice (some ⟨w.heap.size, 0, none⟩) 1 1) 1 (icell ⟨1, 0, name.data.toList, -1⟩) := World.ownsRow_lit w _ 1 (Nat.le_refl _) (by unfold maxLen; omega) rfl
  have hX1 := own_kp hx hk1 (fun _ _ f => f)
  go_enter Tryz.func12, Tryz.ntmps12
  go_upto_region 2 with fail
  generalize w.alloc (.cells #[.int .i64 1, .int .i64 0, .string name, .int .i64 (-1)] 54) = w1 at *
  have HC := Lib.hid (nodes_any l B _ w1 hX1 (by omega))
  have HK1 := Lib.hid hk1
  have HO1 := Lib.hid hO1
  clear hx hX1 hk1 hO1
  go_wp2_with (go_at_call 29; refine HC.out.mono ?_)
  rintro e w2 ⟨v2, rfl, ho2, hk2⟩
  have HD := Lib.hid (Items_any l _ v2 w2 ho2 (by omega) hf)
  have HK2 := Lib.hid hk2
  clear ho2 hk2
  go_wp2_with (go_at_call 28; refine HD.out.mono ?_)
  rintro e w3 ⟨v3, rfl, ho3, hk3⟩
  obtain ⟨g3, c3, rfl, -⟩ := World.ownsRow.form ho3 (itsOf_ne true false l hne)
  have hlen := itsOf_len true false l
  have hN3 := Lib.hid (own_cells ho3)
  have hO3 := own_kp (own_kp HO1.out HK2.out (fun _ _ f => f)) hk3 (fun _ _ f => f)
  have hw3 : w.heap.size ≤ w3.heap.size := Nat.le_trans HK1.out.size (Nat.le_trans HK2.out.size hk3.size)
  have HK3 := Lib.hid ((HK1.out.trans HK2.out).trans hk3)
  clear ho3 hk3
  obtain ⟨i0, hi', hz0, hz1, hz2⟩ := info_parts info54
  go_wp2_with (at_builtin; refine wpList_append_own _ rfl (.tmp 9) (.tmp 12) 30 rfl w.heap.size 54 i0 _ 4 40 Tryz.underlying30 hi' hz0 hz1 hz2 rfl (by decide) _ 1 _ rfl hO3 ⟨g3, 0, none⟩ _ c3 ((itsOf true false l).flatMap icell) rfl (icell_len _) hN3.out ?c1 ?c3 ?c4 ?c5 ?_)
  case c1 => exact icell_one _
  case c3 => unfold maxLen; omega
  case c4 => omega
  case c5 => exact hw3
  intro v4 w4 hO4 hg4 _
  have HK4 : Hid (Kp (fun _ => False) w w4) := Lib.hid (HK3.out.grown hg4 (fun k hk => .inr ((own_lt hO3 k hk).1)))
  have hw4 : w.heap.size ≤ w4.heap.size := HK4.out.size
  have HO4 := Lib.hid hO4
  have HNW := Lib.hid (World.news_of_block (heap_alloc_new w4 (.cells #[.int .i64 35, .int .i64 0, .string ⟨#[59]⟩, .int .i64 (-1)] 54)))
  clear hO4 hg4 hO3 hN3
  go_wp2_with (at_builtin; refine wpList_append_own _ rfl (.tmp 13) (.tmp 15) 30 rfl w.heap.size 54 i0 _ 4 40 Tryz.underlying30 hi' hz0 hz1 hz2 rfl (by decide) _ (1 + (itsOf true false l).length) _ rfl (World.ownsRow.alloc HO4.out _) ⟨w4.heap.size, 0, none⟩ 1 1 (icell it59) rfl rfl HNW.out ?c1 ?c3 ?c4 ?c5 ?_)
  case c1 => intro u hu; simp [icell] at hu; rcases hu with rfl | rfl | rfl | rfl <;> rfl
  case c3 => unfold maxLen; omega
  case c4 => omega
  case c5 => exact Nat.le_trans hw4 (by simp)
  intro v5 w5 hO5 hg5 _
  have HK5 : Hid (Kp (fun _ => False) w w5) := Lib.hid ((HK4.out.alloc _).grown hg5 (fun k hk => .inr ((own_lt HO4.out k hk).1)))
  have HO5 := Lib.hid hO5
  clear hO5 hg5
  go_wp2
  go_ret
  refine ⟨_, rfl, ?_, HK5.out⟩
  have := HO5.out
  have e1 : (atIt name.data.toList l).length = 1 + (itsOf true false l).length + 1 := by simp [atIt]; omega
  rw [e1]
  have e2 : (atIt name.data.toList l).flatMap icell = icell ⟨1, 0, name.data.toList, -1⟩ ++ (itsOf true false l).flatMap icell ++ icell it59 := by simp [atIt]
  rw [e2]
  exact this
theorem decl_any (name : ByteArray) (l : List ND) (B : Nat) (v : Value) (w : World) (hx : w.ownsRow B 25 6 v l.length (l.flatMap ND.cells)) (hl : l.length ≤ 1000000) (hf : Flt l) (hne : l ≠ []) :
    Calls Tryz.prog 14 #[.string name, v] w fun e w' => ∃ v', e = .returned v' ∧ w'.ownsRow w.heap.size 54 4 v' (declIt name.data.toList l).length ((declIt name.data.toList l).flatMap icell) ∧ Kp (fun _ => False) w w' := by
  obtain ⟨Ax, cx, rfl⟩ := own_nil hx rfl
  have hk1 : Kp (fun _ => False) w (w.alloc (.cells #[.int .i64 29, .int .i64 0, .string name, .int .i64 (-1), .int .i64 9, .int .i64 0, .string ⟨#[58]⟩, .int .i64 (-1)] 54)) := (Kp.refl _ w).alloc _
  have hO1 : (w.alloc (.cells #[.int .i64 29, .int .i64 0, .string name, .int .i64 (-1), .int .i64 9, .int .i64 0, .string ⟨#[58]⟩, .int .i64 (-1)] 54)).ownsRow w.heap.size 54 4 (.slice (some ⟨w.heap.size, 0, none⟩) 2 2) 2 (icell ⟨29, 0, name.data.toList, -1⟩ ++ icell ⟨9, 0, [58], -1⟩) := World.ownsRow_lit w _ 2 (Nat.le_refl _) (by unfold maxLen; omega) rfl
  have hX1 := own_kp hx hk1 (fun _ _ f => f)
  go_enter Tryz.func14, Tryz.ntmps14
  go_upto_region 2 with fail
  generalize w.alloc (.cells #[.int .i64 29, .int .i64 0, .string name, .int .i64 (-1), .int .i64 9, .int .i64 0, .string ⟨#[58]⟩, .int .i64 (-1)] 54) = w1 at *
  have HC := Lib.hid (nodes_any l B _ w1 hX1 (by omega))
  have HK1 := Lib.hid hk1
  have HO1 := Lib.hid hO1
  clear hx hX1 hk1 hO1
  go_wp2_with (go_at_call 29; refine HC.out.mono ?_)
  rintro e w2 ⟨v2, rfl, ho2, hk2⟩
  have HD := Lib.hid (Items_any l _ v2 w2 ho2 (by omega) hf)
  have HK2 := Lib.hid hk2
  clear ho2 hk2
  go_wp2_with (go_at_call 28; refine HD.out.mono ?_)
  rintro e w3 ⟨v3, rfl, ho3, hk3⟩
  obtain ⟨g3, c3, rfl, -⟩ := World.ownsRow.form ho3 (itsOf_ne true false l hne)
  have hlen := itsOf_len true false l
  have hN3 := Lib.hid (own_cells ho3)
  have hO3 := own_kp (own_kp HO1.out HK2.out (fun _ _ f => f)) hk3 (fun _ _ f => f)
  have hw3 : w.heap.size ≤ w3.heap.size := Nat.le_trans HK1.out.size (Nat.le_trans HK2.out.size hk3.size)
  have HK3 := Lib.hid ((HK1.out.trans HK2.out).trans hk3)
  clear ho3 hk3
  obtain ⟨i0, hi', hz0, hz1, hz2⟩ := info_parts info54
  go_wp2_with (at_builtin; refine wpList_append_own _ rfl (.tmp 10) (.tmp 13) 30 rfl w.heap.size 54 i0 _ 4 40 Tryz.underlying30 hi' hz0 hz1 hz2 rfl (by decide) _ 2 _ rfl hO3 ⟨g3, 0, none⟩ _ c3 ((itsOf true false l).flatMap icell) rfl (icell_len _) hN3.out ?c1 ?c3 ?c4 ?c5 ?_)
  case c1 => exact icell_one _
  case c3 => unfold maxLen; omega
  case c4 => omega
  case c5 => exact hw3
  intro v4 w4 hO4 hg4 _
  have HK4 : Hid (Kp (fun _ => False) w w4) := Lib.hid (HK3.out.grown hg4 (fun k hk => .inr ((own_lt hO3 k hk).1)))
  have hw4 : w.heap.size ≤ w4.heap.size := HK4.out.size
  have HO4 := Lib.hid hO4
  have HNW := Lib.hid (World.news_of_block (heap_alloc_new w4 (.cells #[.int .i64 35, .int .i64 0, .string ⟨#[59]⟩, .int .i64 (-1)] 54)))
  clear hO4 hg4 hO3 hN3
  go_wp2_with (at_builtin; refine wpList_append_own _ rfl (.tmp 14) (.tmp 16) 30 rfl w.heap.size 54 i0 _ 4 40 Tryz.underlying30 hi' hz0 hz1 hz2 rfl (by decide) _ (2 + (itsOf true false l).length) _ rfl (World.ownsRow.alloc HO4.out _) ⟨w4.heap.size, 0, none⟩ 1 1 (icell it59) rfl rfl HNW.out ?c1 ?c3 ?c4 ?c5 ?_)
  case c1 => intro u hu; simp [icell] at hu; rcases hu with rfl | rfl | rfl | rfl <;> rfl
  case c3 => unfold maxLen; omega
  case c4 => omega
  case c5 => exact Nat.le_trans hw4 (by simp)
  intro v5 w5 hO5 hg5 _
  have HK5 : Hid (Kp (fun _ => False) w w5) := Lib.hid ((HK4.out.alloc _).grown hg5 (fun k hk => .inr ((own_lt HO4.out k hk).1)))
  have HO5 := Lib.hid hO5
  clear hO5 hg5
  go_wp2
  go_ret
  refine ⟨_, rfl, ?_, HK5.out⟩
  have := HO5.out
  have e1 : (declIt name.data.toList l).length = 2 + (itsOf true false l).length + 1 := by simp [declIt]; omega
  rw [e1]
  have e2 : (declIt name.data.toList l).flatMap icell = icell ⟨29, 0, name.data.toList, -1⟩ ++ icell ⟨9, 0, [58], -1⟩ ++ (itsOf true false l).flatMap icell ++ icell it59 := by simp [declIt]
  rw [e2]
  exact this
end Go.Proofs.YtkaejhdncohgpaaGreatFmt

/- Walks: wakes; holds at a text whose pieces are known; IsURL. -/
namespace Go.Proofs.YtkaejhdncohgpaaGreatFmt
set_option linter.all false
open Go.RowKit Go.Lib
set_option maxRecDepth 100000
set_option maxHeartbeats 4000000

theorem toksC_flat (l : List ND) (B : Nat) (v : Value) (w : World) (hx : w.ownsRow B 25 6 v l.length (l.flatMap ND.cells)) (hl : l.length ≤ 2147483647) (hf : Flt l) (hok : ∀ n ∈ l, NdOk n) : ToksC v (l.map tdOf) w :=
  (toks_flat l B v w hx hl hf hok).mono fun _ _ ⟨v', h1, h2, h3⟩ => ⟨v', _, h1, h2, h3⟩

theorem IsURL_any (s : ByteArray) (w : World) : Calls Tryz.prog 9 #[.string s] w fun e w' => e = .returned (.bool (isUrlB s.data.toList)) ∧ w' = w := by
  have HL := Lib.hid (isURL_any s.data.toList w)
  rw [bstr_data] at HL
  go_enter Tryz.func9, Tryz.ntmps9
  go_wp2_with (go_at_call 23; refine HL.out.mono ?_; rintro e w' ⟨rfl, rfl⟩)
  go_ret
  exact ⟨rfl, rfl⟩

def ndW : List ND := [⟨29, 0, 0, [97], false, false⟩]
theorem wakes_text : atT true false [120] (ndW.map tdOf) = [64, 120, 32, 97, 59] := by decide
theorem wakes_any (F : Go.Stop.Interp) (w : World) (hT : TbG F w.heap.size w) : Calls Tryz.prog 8 #[] w fun e w' => e = .returned (.bool true) ∧ Kp (fun _ => False) w w' := by
  have hk1 : Kp (fun _ => False) w (w.alloc (.cells #[.int .i64 29, .int .i64 0, .int .i64 0, .string ⟨#[97]⟩, .bool false, .bool false] 25)) := (Kp.refl _ w).alloc _
  have hO1 : (w.alloc (.cells #[.int .i64 29, .int .i64 0, .int .i64 0, .string ⟨#[97]⟩, .bool false, .bool false] 25)).ownsRow w.heap.size 25 6 (.slice (some ⟨w.heap.size, 0, none⟩) 1 1) 1 (ndW.flatMap ND.cells) := World.ownsRow_lit w _ 1 (Nat.le_refl _) (by unfold maxLen; omega) rfl
  have htd : ndW.map tdOf = [.mk 29 [97] 0 0 none] := by simp [ndW, tdOf, wsOf, show dcs [97] = [97] by decide]
  have hA := At_any F false ⟨#[120]⟩ [120] _ (ndW.map tdOf) true false _ ((hT.kp hk1 (fun _ f => f.elim)).up hk1.size) (by intro c hc; simp at hc; subst hc; unfold Scal; omega) (by decide)
    (toksC_flat ndW _ _ _ hO1 (by decide) (.plain _ _ rfl (by decide) (by decide) (by decide) (by decide) .nil) (by intro n hn; simp [ndW] at hn; subst hn; exact ⟨by decide, by decide, by decide, by decide, by decide⟩))
    (by rw [htd]; exact .cons _ _ _ _ _ _ (.inl rfl) (.inl rfl) (by intro c hc; simp at hc; subst hc; unfold Scal; omega) (by intro h; cases h) (.none _ (by unfold Opn; omega)) .nil) (fun G => tokens_any F G _) (by rw [htd]; decide)
  rw [wakes_text] at hA
  have HA := Lib.hid hA
  have HK1 := Lib.hid hk1
  clear hk1 hO1 htd hA hT
  go_enter Tryz.func8, Tryz.ntmps8
  go_wp2_with (go_at_call 11; refine HA.out.mono ?_)
  rintro e w2 ⟨rfl, hk2⟩
  have HK2 := Lib.hid (HK1.out.trans hk2)
  clear hk2
  go_wp2
  go_ret
  exact ⟨ret_bool (by rw [Lib.toList_data]; decide), HK2.out⟩

theorem MtL.imp {P Q : Tk × Bool → It → Prop} {spc : Bool} {rs : List (Tk × Bool)} {xs : List It} (h : MtL P spc rs xs) (hPQ : ∀ r x, x ∈ xs → P r x → Q r x) : MtL Q spc rs xs := by
  induction h with
  | nil => exact .nil
  | cons r x rs xs h hs hr ih => exact .cons r x rs xs (hPQ r x (by simp) h) hs (ih fun r y hy => hPQ r y (by simp [hy]))
/-- A text that is read as items, by the program's comparison. -/
theorem holds_ok (K : Nat) (text : List UInt8) (spc : Bool) (xs : List It) (h : TextOk K text spc xs) (hnd : ∀ x ∈ xs, x.k ≠ 26) (hK : text.length < K) (hs : text.length ≤ 1099511627776) (B : Nat) (v : Value) (w : World) (hx : w.ownsRow B 54 4 v xs.length (xs.flatMap icell)) :
    Calls Tryz.prog 10 #[.string (bstr text), v, .bool spc] w fun e w' => e = .returned (.bool true) ∧ Kp (fun _ => False) w w' := by
  obtain ⟨ts, h1, h2, h3⟩ := h.rd
  have e : (bstr text).data.toList = text := by simp [bstr]
  have e2 : lft (bstr text) 0 = its text := by unfold lft; rw [e]; rfl
  refine holds_any (bstr text) K w (by rw [bstr_size]; exact hs) (by rw [bstr_size]; exact hK) ts (by rw [bstr_size, e2]; exact h1) (by rw [e]; exact h2) (fun r x => Pq text r x ∧ x.k ≠ 26) ?_ spc xs (h3.imp fun r x hx hp => ⟨hp, hnd x hx⟩) B v hx
  intro r x w hp
  obtain ⟨⟨p1, p2, p3⟩, p4⟩ := hp
  exact is_any (bstr text) r x w (by rw [e]; exact p1) p2 (by rw [bstr_size]; exact p3) p4
end Go.Proofs.YtkaejhdncohgpaaGreatFmt

/- Plain words: the law of names: the conditions of the walks at its nodes. No program stands in this file, and no condition. -/
namespace Go.Proofs.YtkaejhdncohgpaaGreatFmt
set_option linter.all false
open Go.RowKit Go.Lib
set_option maxRecDepth 100000

theorem atT_len (m a uq : Bool) (cs : List Int) (l : List TD) (hc : ∀ c ∈ cs, Scal c) (hok : TsOk uq l) : (atT m a cs l).length ≤ 8 * (encs cs).length + costL l + 10 := by
  have h1 := identP_len a (decide (l ≠ [])) (iniE 0 cs) cs hc
  have h2 := rowT_len a uq _ l (firstW l) (Nat.le_refl _) hok
  have h3 : (if l = [] then ([] : List UInt8) else [32]).length ≤ 1 := by split <;> simp
  have h4 : (if m then ([] : List UInt8) else [10]).length ≤ 1 := by cases m <;> simp
  unfold atT
  rw [List.length_cons, List.length_append, List.length_append, List.length_append, List.length_cons]
  omega
theorem declT_len (m a uq : Bool) (cs : List Int) (l : List TD) (hc : ∀ c ∈ cs, Scal c) (hok : TsOk uq l) : (declT m a false cs l).length ≤ 8 * (encs cs).length + costL l + 10 := by
  have h1 := identP_len a false (iniE 0 cs) cs hc
  have h2 := rowT_len a uq _ l (firstW l) (Nat.le_refl _) hok
  have h4 : (if m then ([] : List UInt8) else [10]).length ≤ 1 := by cases m <;> simp
  unfold declT
  rw [List.length_append, List.length_cons, List.length_append, List.length_append, List.length_cons]
  simp only [Bool.false_eq_true, if_false, List.length_nil]
  omega
theorem tsok_n (cs : List Int) (fn uq : Bool) (hsc : ∀ c ∈ cs, Scal c) : TsOk uq ((ndsN cs fn).map tdOf) := by
  rw [tds_n cs fn hsc]
  refine .cons _ _ _ _ _ _ (.inr (.inr (.inl rfl))) (.inl rfl) hsc (by intro h; cases h) (.none _ (by unfold Opn; omega)) (.cons _ _ _ _ _ _ (.inr (.inr (.inl rfl))) (.inr (.inr (.inr (.inl rfl)))) hsc (by intro h; cases h) (.none _ (by unfold Opn; omega))
    (.cons _ _ _ _ _ _ (.inl rfl) (.inr (.inr (.inl rfl))) hsc (by intro h; cases h) (.none _ (by unfold Opn; omega)) ?_))
  cases fn
  · exact .nil
  · exact .cons _ _ _ _ _ _ (.inr (.inl rfl)) (.inr (.inl rfl)) hsc (by intro h; cases h) (.some _ _ (.inl rfl) .nil) .nil
theorem cost_n (cs : List Int) (fn : Bool) (hsc : ∀ c ∈ cs, Scal c) : costL ((ndsN cs fn).map tdOf) ≤ 32 * (encs cs).length + 1600 := by
  rw [tds_n cs fn hsc]
  cases fn
  · simp only [costL, costT, costO, if_false, Bool.false_eq_true]; omega
  · simp only [costL, costT, costO, if_true]; omega
theorem nocm_n (cs : List Int) (fn : Bool) (hsc : ∀ c ∈ cs, Scal c) : NoCm ((ndsN cs fn).map tdOf) := by
  rw [tds_n cs fn hsc]
  intro t ht
  cases fn
  · simp at ht
    rcases ht with rfl | rfl | rfl <;> exact ⟨by simp [TD.k], by simp [TD.k]⟩
  · simp at ht
    rcases ht with rfl | rfl | rfl | rfl <;> exact ⟨by simp [TD.k], by simp [TD.k, TD.ch]⟩
theorem flt_n (cs : List Int) (fn : Bool) : Flt (ndsN cs fn) := by
  refine .plain _ _ rfl (by show (29 : Int) ≠ 27; decide) (by show (29 : Int) ≠ 33; decide) (by show (29 : Int) ≠ 32; decide) (by show (29 : Int) ≠ 31; decide) (.plain _ _ rfl (by show (28 : Int) ≠ 27; decide) (by show (28 : Int) ≠ 33; decide) (by show (28 : Int) ≠ 32; decide) (by show (28 : Int) ≠ 31; decide)
    (.plain _ _ rfl (by show (1 : Int) ≠ 27; decide) (by show (1 : Int) ≠ 33; decide) (by show (1 : Int) ≠ 32; decide) (by show (1 : Int) ≠ 31; decide) ?_))
  cases fn
  · exact .nil
  · exact .func _ rfl rfl
theorem dcs_back (cs : List Int) (h : ∀ c ∈ cs, Scal c) : encs (dcs (encs cs)) = encs cs := by rw [dcs_encs cs h]
theorem ndok_n (cs : List Int) (fn : Bool) (hsc : ∀ c ∈ cs, Scal c) : ∀ n ∈ ndsN cs fn, NdOk n := by
  have e := dcs_back cs hsc
  have mk : ∀ (k : Int) (bf af : Bool), 0 ≤ k → k < 256 → NdOk ⟨k, 0, 0, encs cs, bf, af⟩ := fun k bf af h0 h1 => ⟨h0, h1, by show (0 : Int) ≤ 0; decide, by show (0 : Int) < 65536; decide, e.symm⟩
  intro n hn
  cases fn
  · simp [ndsN] at hn
    rcases hn with rfl | rfl | rfl <;> exact mk _ _ _ (by decide) (by decide)
  · simp [ndsN] at hn
    rcases hn with rfl | rfl | rfl | rfl <;> exact mk _ _ _ (by decide) (by decide)
theorem len_n (cs : List Int) (fn : Bool) : (ndsN cs fn).length ≤ 4 ∧ ndsN cs fn ≠ [] := by cases fn <;> exact ⟨by simp [ndsN], by simp [ndsN]⟩
theorem nd26_at (name : List UInt8) (cs : List Int) (fn : Bool) : ∀ x ∈ atIt name (ndsN cs fn), x.k ≠ 26 := by
  intro x hx
  cases fn
  · simp [atIt, ndsN, itsOf, it59] at hx
    rcases hx with rfl | rfl | rfl | rfl | rfl <;> simp
  · simp [atIt, ndsN, itsOf, it59] at hx
    rcases hx with rfl | rfl | rfl | rfl | rfl | rfl | rfl <;> simp
theorem nd26_decl (name : List UInt8) (cs : List Int) (fn : Bool) : ∀ x ∈ declIt name (ndsN cs fn), x.k ≠ 26 := by
  intro x hx
  cases fn
  · simp [declIt, ndsN, itsOf, it59] at hx
    rcases hx with rfl | rfl | rfl | rfl | rfl | rfl <;> simp
  · simp [declIt, ndsN, itsOf, it59] at hx
    rcases hx with rfl | rfl | rfl | rfl | rfl | rfl | rfl | rfl <;> simp
end Go.Proofs.YtkaejhdncohgpaaGreatFmt

/- Walk: the law of names, for every text of at most 2^46 bytes. -/
namespace Go.Proofs.YtkaejhdncohgpaaGreatFmt
set_option linter.all false
open Go.RowKit Go.Lib
set_option maxRecDepth 100000
set_option maxHeartbeats 8000000

/-- append(l, node): onto a row of nodes that the call owns. -/
theorem app_nd {w : World} {ops : Array Oper} {rest : List Oper} {o : Oper} {a : Act} {Q : Exit → Act → World → Prop} (sl x : Operand) (ho : o.op = .call { callee := .builtin .append, args := #[sl, x], argTypes := #[26, 26] }) (hgd : o.guard = none)
    (B n g : Nat) (v : Value) (xs ys : List Value) (hs : a.eval sl = v) (hown : w.ownsRow B 25 6 v n xs) (hx : a.eval x = .slice (some ⟨g, 0, none⟩) 1 1) (hc : ∀ j u, ys[j]? = some u → w.cell? ((⟨g, 0, none⟩ : Addr).add j) = some u) (hl : ys.length = 6) (h1 : ∀ u ∈ ys, u.oneCell' = true) (hn : n ≤ 2147483647) (hB : B ≤ w.heap.size)
    (h : ∀ v' w', w'.ownsRow B 25 6 v' (n + 1) (xs ++ ys) → w.grownBy w' v.ownBlock → wpList Tryz.prog ops Q rest (a.put o.dst v') w') : wpList Tryz.prog ops Q (o :: rest) a w := by
  obtain ⟨i0, hi', hz0, hz1, hz2⟩ := info_parts info25
  exact wpList_append_own w hgd sl x 26 ho B 25 i0 _ 6 48 Tryz.underlying26 hi' hz0 hz1 hz2 rfl (by decide) v n xs hs hown ⟨g, 0, none⟩ 1 1 ys hx (by omega) hc h1 (by unfold maxLen; omega) (by omega) hB fun v' w' h1 h2 _ => h v' w' h1 h2
theorem Names_any (F : Go.Stop.Interp) (s : ByteArray) (m a : Bool) (w : World) (hT : TbG F w.heap.size w) (hmax : s.size ≤ 9223372036854775807) : Calls Tryz.prog 3 #[.string s, .bool m, .bool a] w fun e w' => e = .returned (.bool true) ∧ Kp (fun _ => False) w w' := by
  by_cases hbig : 2147483647 < s.size
  · go_enter Tryz.func3, Tryz.ntmps3
    go_wp2
    go_ret
    exact ⟨rfl, Kp.refl _ _⟩
  have hs : s.size ≤ 140737488355000 := by omega
  cases hnm : namedB s.data.toList a
  · have HN := Lib.hid (named_any s a w hs)
    rw [hnm] at HN
    have HW := Lib.hid (wakes_any F w hT)
    clear hT hs hnm
    go_enter Tryz.func3, Tryz.ntmps3
    go_wp2_with (go_at_call 7; refine HN.out.mono ?_)
    rintro e w2 ⟨rfl, rfl⟩
    go_wp2_with (go_at_call 8; refine HW.out.mono ?_)
    rintro e w3 ⟨rfl, hk3⟩
    have HK3 := Lib.hid hk3
    clear hk3
    go_wp2
    go_ret
    exact ⟨rfl, HK3.out⟩
  obtain ⟨cs, hcs, hN, hlen⟩ := named_nm hnm
  obtain rfl : s = bstr (encs cs) := by rw [← hcs]; rfl
  have hsz : (bstr (encs cs)).size = (encs cs).length := bstr_size _
  have hsc : ∀ c ∈ cs, Scal c := fun c hc => (hN.pl c hc).1
  have HNA := Lib.hid (named_any (bstr (encs cs)) a w hs)
  rw [hnm] at HNA
  have HT := Lib.hid hT
  clear hT hs hnm hcs
  have hk1 : Kp (fun _ => False) w (w.alloc (.cells #[.int .i64 29, .int .i64 0, .int .i64 0, .string (bstr (encs cs)), .bool false, .bool true, .int .i64 28, .int .i64 0, .int .i64 0, .string (bstr (encs cs)), .bool false, .bool true, .int .i64 1, .int .i64 0, .int .i64 0, .string (bstr (encs cs)), .bool false, .bool false] 25)) := (Kp.refl _ w).alloc _
  have hO1 : (w.alloc (.cells #[.int .i64 29, .int .i64 0, .int .i64 0, .string (bstr (encs cs)), .bool false, .bool true, .int .i64 28, .int .i64 0, .int .i64 0, .string (bstr (encs cs)), .bool false, .bool true, .int .i64 1, .int .i64 0, .int .i64 0, .string (bstr (encs cs)), .bool false, .bool false] 25)).ownsRow w.heap.size 25 6 (.slice (some ⟨w.heap.size, 0, none⟩) 3 3) 3 ((ndsN cs false).flatMap ND.cells) := World.ownsRow_lit w _ 3 (Nat.le_refl _) (by unfold maxLen; omega) rfl
  have HU : Hid (Calls Tryz.prog 9 #[.string (bstr (encs cs))] (w.alloc (.cells #[.int .i64 29, .int .i64 0, .int .i64 0, .string (bstr (encs cs)), .bool false, .bool true, .int .i64 28, .int .i64 0, .int .i64 0, .string (bstr (encs cs)), .bool false, .bool true, .int .i64 1, .int .i64 0, .int .i64 0, .string (bstr (encs cs)), .bool false, .bool false] 25)) fun e w' => e = .returned (.bool (isUrlB (encs cs))) ∧ w' = (w.alloc (.cells #[.int .i64 29, .int .i64 0, .int .i64 0, .string (bstr (encs cs)), .bool false, .bool true, .int .i64 28, .int .i64 0, .int .i64 0, .string (bstr (encs cs)), .bool false, .bool true, .int .i64 1, .int .i64 0, .int .i64 0, .string (bstr (encs cs)), .bool false, .bool false] 25))) := Lib.hid (IsURL_any (bstr (encs cs)) _)
  have HK1 := Lib.hid hk1
  have HO1 := Lib.hid hO1
  clear hk1 hO1
  go_enter Tryz.func3, Tryz.ntmps3
  go_upto_if 25 with (first | (go_at_call 7; refine HNA.out.mono ?_; rintro e w2 ⟨rfl, hw2⟩; obtain rfl := hw2.symm) | (go_at_call 9; refine HU.out.mono ?_; rintro e w2 ⟨rfl, hw2⟩; obtain rfl := hw2.symm))
  clear HU HNA
  cases hu : isUrlB (encs cs)
  case true =>
    have HKB := HK1
    have HOB : Hid ((w.alloc (.cells #[.int .i64 29, .int .i64 0, .int .i64 0, .string (bstr (encs cs)), .bool false, .bool true, .int .i64 28, .int .i64 0, .int .i64 0, .string (bstr (encs cs)), .bool false, .bool true, .int .i64 1, .int .i64 0, .int .i64 0, .string (bstr (encs cs)), .bool false, .bool false] 25)).ownsRow w.heap.size 25 6 (.slice (some ⟨w.heap.size, 0, none⟩) 3 3) (ndsN cs false).length ((ndsN cs false).flatMap ND.cells)) := HO1
    clear HK1 HO1
    generalize w.alloc (.cells #[.int .i64 29, .int .i64 0, .int .i64 0, .string (bstr (encs cs)), .bool false, .bool true, .int .i64 28, .int .i64 0, .int .i64 0, .string (bstr (encs cs)), .bool false, .bool true, .int .i64 1, .int .i64 0, .int .i64 0, .string (bstr (encs cs)), .bool false, .bool false] 25) = wB at *
    generalize hvB : Value.slice (some ⟨w.heap.size, 0, none⟩) 3 3 = vB at *
    have hvB2 := hvB
    clear hvB
    go_upto_region 8 with fail

    have htb : TbG F wB.heap.size wB := (HT.out.kp HKB.out (fun _ f => f.elim)).up HKB.out.size
    have HA := Lib.hid (At_any F false (bstr (encs cs)) cs vB ((ndsN cs false).map tdOf) m a wB htb hsc rfl (toksC_flat _ _ _ _ HOB.out (by have := (len_n cs false).1; omega) (flt_n cs false) (ndok_n cs false hsc)) (tsok_n cs false false hsc) (fun G => tokens_any F G _) (by have := cost_n cs false hsc; omega))
    clear htb
    go_wp2_with (go_at_call 11; refine HA.out.mono ?_)
    rintro e wC ⟨rfl, hkC⟩
    have HB1 := Lib.hid (at_any (bstr (encs cs)) (ndsN cs false) _ vB wC (own_kp HOB.out hkC (fun _ _ f => f)) (by have := (len_n cs false).1; omega) (flt_n cs false) (len_n cs false).2)
    have HKC := Lib.hid (HKB.out.trans hkC)
    have HOC := Lib.hid (own_kp HOB.out hkC (fun _ _ f => f))
    clear hkC
    go_wp2_with (go_at_call 12; refine HB1.out.mono ?_)
    rintro e wD ⟨v12, rfl, ho12, hkD⟩
    have HH1 := Lib.hid (holds_ok ((atT m a cs ((ndsN cs false).map tdOf)).length + cs.length + 1) _ false _ (names_at _ m a false cs hN (by omega) (fun h => by cases h)) (nd26_at _ cs false) (by omega) (by have := atT_len m a false cs _ hsc (tsok_n cs false false hsc); have := cost_n cs false hsc; omega) _ v12 wD ho12)
    have HKD := Lib.hid (HKC.out.trans hkD)
    have HOD := Lib.hid (own_kp HOC.out hkD (fun _ _ f => f))
    clear ho12 hkD
    go_wp2_with (go_at_call 10; refine HH1.out.mono ?_)
    rintro e wE ⟨rfl, hkE⟩
    have hkE' := HKD.out.trans hkE
    have htE : TbG F wE.heap.size wE := (HT.out.kp hkE' (fun _ f => f.elim)).up hkE'.size
    have hoE := own_kp HOD.out hkE (fun _ _ f => f)
    have HA2 := Lib.hid (Decl_any F false (bstr (encs cs)) cs vB ((ndsN cs false).map tdOf) m a false wE htE hsc rfl (toksC_flat _ _ _ _ hoE (by have := (len_n cs false).1; omega) (flt_n cs false) (ndok_n cs false hsc)) (tsok_n cs false false hsc) (fun G => tokens_any F G _) (.inr (nocm_n cs false hsc)) (by have := cost_n cs false hsc; omega))
    have HKE := Lib.hid hkE'
    have HOE := Lib.hid hoE
    clear hkE hkE' htE hoE
    go_wp2_with (go_at_call 13; refine HA2.out.mono ?_)
    rintro e wF ⟨rfl, hkF⟩
    have HB2 := Lib.hid (decl_any (bstr (encs cs)) (ndsN cs false) _ vB wF (own_kp HOE.out hkF (fun _ _ f => f)) (by have := (len_n cs false).1; omega) (flt_n cs false) (len_n cs false).2)
    have HKF := Lib.hid (HKE.out.trans hkF)
    clear hkF
    go_wp2_with (go_at_call 14; refine HB2.out.mono ?_)
    rintro e wG ⟨v14, rfl, ho14, hkG⟩
    have HH2 := Lib.hid (holds_ok ((declT m a false cs ((ndsN cs false).map tdOf)).length + cs.length + 1) _ false _ (names_decl _ m a false cs hN (by omega) (fun h => by cases h)) (nd26_decl _ cs false) (by omega) (by have := declT_len m a false cs _ hsc (tsok_n cs false false hsc); have := cost_n cs false hsc; omega) _ v14 wG ho14)
    have HKG := Lib.hid (HKF.out.trans hkG)
    clear ho14 hkG
    go_wp2_with (go_at_call 10; refine HH2.out.mono ?_)
    rintro e wH ⟨rfl, hkH⟩
    have hkH' := HKG.out.trans hkH
    have HW := Lib.hid (wakes_any F wH ((HT.out.kp hkH' (fun _ f => f.elim)).up hkH'.size))
    have HKH := Lib.hid hkH'
    clear hkH hkH'
    go_wp2_with (go_at_call 8; refine HW.out.mono ?_)
    rintro e wI ⟨rfl, hkI⟩
    have HKI := Lib.hid (HKH.out.trans hkI)
    clear hkI
    go_wp2
    go_ret
    exact ⟨rfl, HKI.out⟩

  case false =>
    have HUF := Lib.hid hu
    clear hu
    generalize w.alloc (.cells #[.int .i64 29, .int .i64 0, .int .i64 0, .string (bstr (encs cs)), .bool false, .bool true, .int .i64 28, .int .i64 0, .int .i64 0, .string (bstr (encs cs)), .bool false, .bool true, .int .i64 1, .int .i64 0, .int .i64 0, .string (bstr (encs cs)), .bool false, .bool false] 25) = w1 at *
    have HNW := Lib.hid (World.news_of_block (heap_alloc_new w1 (.cells #[.int .i64 27, .int .i64 0, .int .i64 0, .string (bstr (encs cs)), .bool true, .bool false] 25)))
    have hown := World.ownsRow.alloc HO1.out (.cells #[.int .i64 27, .int .i64 0, .int .i64 0, .string (bstr (encs cs)), .bool true, .bool false] 25)
    simp only [Bool.not_false]
    have hB1 := Nat.le_trans HK1.out.size (show w1.heap.size ≤ (w1.alloc (.cells #[.int .i64 27, .int .i64 0, .int .i64 0, .string (bstr (encs cs)), .bool true, .bool false] 25)).heap.size by simp)
    have hone : ∀ u ∈ ND.cells ⟨27, 0, 0, encs cs, true, false⟩, u.oneCell' = true := by intro u hu; simp [ND.cells] at hu; rcases hu with rfl | rfl | rfl | rfl | rfl | rfl <;> rfl
    go_wp2_with (at_builtin; refine app_nd (.tmp 26) (.tmp 29) rfl rfl w.heap.size 3 w1.heap.size _ _ (ND.cells ⟨27, 0, 0, encs cs, true, false⟩) rfl hown rfl HNW.out rfl hone (by omega) hB1 ?_)
    intro vB wB hoB hgB
    have HKB : Hid (Kp (fun _ => False) w wB) := Lib.hid ((HK1.out.alloc _).grown hgB (fun k hk => .inr ((own_lt hown k hk).1)))
    have HOB : Hid (wB.ownsRow w.heap.size 25 6 vB (ndsN cs true).length ((ndsN cs true).flatMap ND.cells)) := Lib.hid hoB
    clear hoB hgB hown HK1 HO1 HNW hone hB1
    go_upto_region 8 with fail

    have htb : TbG F wB.heap.size wB := (HT.out.kp HKB.out (fun _ f => f.elim)).up HKB.out.size
    have HA := Lib.hid (At_any F false (bstr (encs cs)) cs vB ((ndsN cs true).map tdOf) m a wB htb hsc rfl (toksC_flat _ _ _ _ HOB.out (by have := (len_n cs true).1; omega) (flt_n cs true) (ndok_n cs true hsc)) (tsok_n cs true false hsc) (fun G => tokens_any F G _) (by have := cost_n cs true hsc; omega))
    clear htb
    go_wp2_with (go_at_call 11; refine HA.out.mono ?_)
    rintro e wC ⟨rfl, hkC⟩
    have HB1 := Lib.hid (at_any (bstr (encs cs)) (ndsN cs true) _ vB wC (own_kp HOB.out hkC (fun _ _ f => f)) (by have := (len_n cs true).1; omega) (flt_n cs true) (len_n cs true).2)
    have HKC := Lib.hid (HKB.out.trans hkC)
    have HOC := Lib.hid (own_kp HOB.out hkC (fun _ _ f => f))
    clear hkC
    go_wp2_with (go_at_call 12; refine HB1.out.mono ?_)
    rintro e wD ⟨v12, rfl, ho12, hkD⟩
    have HH1 := Lib.hid (holds_ok ((atT m a cs ((ndsN cs true).map tdOf)).length + cs.length + 1) _ false _ (names_at _ m a true cs hN (by omega) (fun _ => HUF.out)) (nd26_at _ cs true) (by omega) (by have := atT_len m a false cs _ hsc (tsok_n cs true false hsc); have := cost_n cs true hsc; omega) _ v12 wD ho12)
    have HKD := Lib.hid (HKC.out.trans hkD)
    have HOD := Lib.hid (own_kp HOC.out hkD (fun _ _ f => f))
    clear ho12 hkD
    go_wp2_with (go_at_call 10; refine HH1.out.mono ?_)
    rintro e wE ⟨rfl, hkE⟩
    have hkE' := HKD.out.trans hkE
    have htE : TbG F wE.heap.size wE := (HT.out.kp hkE' (fun _ f => f.elim)).up hkE'.size
    have hoE := own_kp HOD.out hkE (fun _ _ f => f)
    have HA2 := Lib.hid (Decl_any F false (bstr (encs cs)) cs vB ((ndsN cs true).map tdOf) m a false wE htE hsc rfl (toksC_flat _ _ _ _ hoE (by have := (len_n cs true).1; omega) (flt_n cs true) (ndok_n cs true hsc)) (tsok_n cs true false hsc) (fun G => tokens_any F G _) (.inr (nocm_n cs true hsc)) (by have := cost_n cs true hsc; omega))
    have HKE := Lib.hid hkE'
    have HOE := Lib.hid hoE
    clear hkE hkE' htE hoE
    go_wp2_with (go_at_call 13; refine HA2.out.mono ?_)
    rintro e wF ⟨rfl, hkF⟩
    have HB2 := Lib.hid (decl_any (bstr (encs cs)) (ndsN cs true) _ vB wF (own_kp HOE.out hkF (fun _ _ f => f)) (by have := (len_n cs true).1; omega) (flt_n cs true) (len_n cs true).2)
    have HKF := Lib.hid (HKE.out.trans hkF)
    clear hkF
    go_wp2_with (go_at_call 14; refine HB2.out.mono ?_)
    rintro e wG ⟨v14, rfl, ho14, hkG⟩
    have HH2 := Lib.hid (holds_ok ((declT m a false cs ((ndsN cs true).map tdOf)).length + cs.length + 1) _ false _ (names_decl _ m a true cs hN (by omega) (fun _ => HUF.out)) (nd26_decl _ cs true) (by omega) (by have := declT_len m a false cs _ hsc (tsok_n cs true false hsc); have := cost_n cs true hsc; omega) _ v14 wG ho14)
    have HKG := Lib.hid (HKF.out.trans hkG)
    clear ho14 hkG
    go_wp2_with (go_at_call 10; refine HH2.out.mono ?_)
    rintro e wH ⟨rfl, hkH⟩
    have hkH' := HKG.out.trans hkH
    have HW := Lib.hid (wakes_any F wH ((HT.out.kp hkH' (fun _ f => f.elim)).up hkH'.size))
    have HKH := Lib.hid hkH'
    clear hkH hkH'
    go_wp2_with (go_at_call 8; refine HW.out.mono ?_)
    rintro e wI ⟨rfl, hkI⟩
    have HKI := Lib.hid (HKH.out.trans hkI)
    clear hkI
    go_wp2
    go_ret
    exact ⟨rfl, HKI.out⟩
end Go.Proofs.YtkaejhdncohgpaaGreatFmt
