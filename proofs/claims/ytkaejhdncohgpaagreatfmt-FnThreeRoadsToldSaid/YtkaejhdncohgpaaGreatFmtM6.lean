/- Plain words: names as they are printed, as code points, and what the reference's lexer reads of them; Plain words: a text as pieces, each of which is read as one token; Plain words: numbers as they are printed, and what the reference's lexer reads of them. -/
import Derived.Test.YtkaejhdncohgpaaGreatFmtM5
/- Plain words: names as they are printed, as code points, and what the reference's lexer reads of them. No program stands in this file, and no condition. -/
namespace Go.Proofs.YtkaejhdncohgpaaGreatFmt
set_option linter.all false
open Go.RowKit Go.Lib
open Go.Extern.Stop Go.Stop Go.Extern

/-- Code points with their widths. -/
def itL (ds : List Int) : Its := ds.map fun c => (c, (encd c).length)
theorem itL_app (a b : List Int) : itL (a ++ b) = itL a ++ itL b := by simp [itL]
theorem itL_cons (c : Int) (b : List Int) : itL (c :: b) = (c, (encd c).length) :: itL b := rfl
theorem itL_nil : itL [] = [] := rfl
theorem pk_0 (x : Int × Nat) (l : Its) : pk (x :: l) 0 = x.1 := rfl
theorem pk_s (x : Int × Nat) (l : Its) (k : Nat) : pk (x :: l) (k + 1) = pk l k := by simp [pk]
theorem wsum_itL : ∀ ds : List Int, wsum (itL ds) = (encs ds).length
  | [] => rfl
  | c :: r => by
    have := wsum_itL r
    rw [encs_cons, List.length_append, ← this]; simp [itL, wsum]
theorem wsum_app (a b : Its) : wsum (a ++ b) = wsum a + wsum b := by simp [wsum]

def hexI (c : Int) : List Int := (hexL c).map fun b => (b.toNat : Int)
theorem dig16 : ∀ d : Fin 16, hexv ((FmtText.digit false d.val).toNat : Int) = d.val ∧ (FmtText.digit false d.val).toNat < 128 := by decide
theorem hex_mem : ∀ (fuel u : Nat) (acc : List UInt8), ∀ b ∈ FmtText.digitsFrom 16 false fuel u acc, (∃ d : Fin 16, b = FmtText.digit false d.val) ∨ b ∈ acc
  | 0, _, _, b, h => .inr h
  | f + 1, u, acc, b, h => by
    simp only [FmtText.digitsFrom] at h
    split at h
    · rename_i hu
      rcases List.mem_cons.1 h with h | h
      · exact .inl ⟨⟨u, hu⟩, h⟩
      · exact .inr h
    · rcases hex_mem f _ _ b h with h | h
      · exact .inl h
      · rcases List.mem_cons.1 h with h | h
        · exact .inl ⟨⟨u % 16, by omega⟩, h⟩
        · exact .inr h
theorem hex_fold : ∀ (fuel u : Nat) (acc : List UInt8), u < 16 ^ fuel → (FmtText.digitsFrom 16 false fuel u acc).foldl (fun v b => v * 16 + hexv (b.toNat : Int)) (0 : Int) = acc.foldl (fun v b => v * 16 + hexv (b.toNat : Int)) (u : Int)
  | 0, u, acc, h => by have : u = 0 := by omega
                       subst this; rfl
  | f + 1, u, acc, h => by
    simp only [FmtText.digitsFrom]
    split
    · rename_i hu
      have := (dig16 ⟨u, hu⟩).1
      rw [List.foldl_cons, this]; simp
    · rw [hex_fold f (u / 16) _ (by rw [Nat.pow_succ] at h; omega), List.foldl_cons, (dig16 ⟨u % 16, by omega⟩).1]
      congr 1
      simp; omega
theorem hexL_fold (c : Int) (h0 : 0 ≤ c) (h1 : c ≤ 1114111) : (hexI c).foldl (fun v d => v * 16 + hexv d) 0 = c := by
  unfold hexI hexL FmtText.numeral
  rw [List.foldl_map, hex_fold 64 c.toNat [] (by have : c.toNat < 16 ^ 6 := by omega
                                                 have : (16 : Nat) ^ 6 ≤ 16 ^ 64 := by decide
                                                 omega)]
  simp; omega
theorem hexI_hex (c : Int) : ∀ d ∈ hexI c, 0 ≤ hexv d ∧ 0 ≤ d ∧ d < 128 := by
  intro d hd
  simp only [hexI, List.mem_map] at hd
  obtain ⟨b, hb, rfl⟩ := hd
  unfold hexL FmtText.numeral at hb
  rcases hex_mem _ _ _ b hb with ⟨x, rfl⟩ | h
  · have := dig16 x; omega
  · cases h
theorem hexI_ne (c : Int) : ∃ d r, hexI c = d :: r := by
  have : (hexL c).length ≠ 0 := by
    unfold hexL FmtText.numeral
    have key : ∀ (fuel u : Nat) (acc : List UInt8), (FmtText.digitsFrom 16 false (fuel + 1) u acc).length ≠ 0 := by
      intro fuel
      induction fuel with
      | zero => intro u acc; simp only [FmtText.digitsFrom]; split <;> simp
      | succ f ih => intro u acc; rw [FmtText.digitsFrom]; split
                     · simp
                     · exact ih _ _
    exact key 63 _ _
  cases h : hexI c with
  | nil => simp [hexI] at h; simp [h] at this
  | cons d r => exact ⟨d, r, rfl⟩
theorem hexI_len (c : Int) : (hexI c).length = (hexL c).length := by simp [hexI]
theorem hexL_len5 (c : Int) (h0 : 0 ≤ c) (h1 : c < 1048576) : (hexL c).length < 6 := by
  unfold hexL FmtText.numeral
  have key : ∀ (k fuel u : Nat) (acc : List UInt8), u < 16 ^ k → 1 ≤ k → (FmtText.digitsFrom 16 false fuel u acc).length ≤ k + acc.length := by
    intro k
    induction k with
    | zero => intro _ _ _ _ h; omega
    | succ k ih =>
      intro fuel u acc hu _
      cases fuel with
      | zero => simp [FmtText.digitsFrom]
      | succ f =>
        simp only [FmtText.digitsFrom]
        split
        · simp; omega
        · rename_i h16
          cases k with
          | zero => simp at hu; omega
          | succ k =>
            have := ih f (u / 16) (FmtText.digit false (u % 16) :: acc) (by rw [Nat.pow_succ] at hu; omega) (by omega)
            simp at this; omega
  have := key 5 64 c.toNat [] (by omega) (by omega)
  simp at this; omega
theorem encd_lo (b : UInt8) (h : b.toNat < 128) : encd (b.toNat : Int) = [b] := by
  rw [encd1 (by omega)]; congr 1; exact (u8_eq b _ (by omega)).symm
theorem encs_hexI (c : Int) : encs (hexI c) = hexL c := by
  have h := hexI_hex c
  unfold hexI at *
  generalize hexL c = l at *
  induction l with
  | nil => rfl
  | cons b l ih =>
    have hb := (h b.toNat (by simp)).2.2
    rw [List.map_cons, encs_cons, encd_lo b (by omega), ih fun d hd => h d (by simp at hd ⊢; exact .inr hd)]
    rfl

theorem hexM_run : ∀ (l : List Int) (n : Nat) (v : Int) (T : Its), (∀ d ∈ l, 0 ≤ hexv d) → l.length ≤ n → hexv (pk T 0) < 0 → hexM n v (itL l ++ T) = (l.foldl (fun v d => v * 16 + hexv d) v, T)
  | [], 0, v, T, _, _, _ => rfl
  | [], n + 1, v, T, _, _, h => by
    have : ¬ 0 ≤ hexv (pk T 0) := by omega
    simp [hexM, itL_nil, this]
  | d :: l, n + 1, v, T, hd, hl, h => by
    rw [itL_cons, List.cons_append, hexM, pk_0, if_pos (hd d (by simp)), List.tail_cons, hexM_run l n _ T (fun x hx => hd x (by simp [hx])) (by simp at hl; omega) h]
    rfl
/-- What may stand behind the digits of an escape. -/
def Good (T : Its) : Prop := hexv (pk T 0) < 0 ∧ isSp (pk T 0) = false
theorem fixM_id (c : Int) (h : Scal c) (h0 : c ≠ 0) : fixM c = c := by unfold fixM Scal at *; rw [if_neg (by omega)]
theorem Scal_r {c : Int} (h : Scal c) : 0 ≤ c ∧ c ≤ 1114111 := by unfold Scal at h; omega
theorem escM_hex (c : Int) (h : Scal c) (h0 : c ≠ 0) (T : Its) (hT : Good T) : escM (itL (hexI c) ++ T) = (c, T, false) := by
  have hr := Scal_r h
  obtain ⟨d, r, e⟩ := hexI_ne c
  have hd := hexI_hex c d (by rw [e]; simp)
  have hp : pk (itL (hexI c) ++ T) 0 = d := by rw [e]; rfl
  unfold escM
  rw [hp, if_neg (by omega)]
  rw [hexM_run (hexI c) 6 0 T (fun x hx => (hexI_hex c x hx).1) (by rw [hexI_len]; exact hexL_len c hr.1 hr.2) hT.1, hexL_fold c hr.1 hr.2]
  have hn : isNl (pk T 0) = false := by have := hT.2; simp only [isSp, Bool.or_eq_false_iff] at this; exact this.1
  simp [hn, hT.2, fixM_id c h h0]
theorem escM_hexb (c : Int) (h : Scal c) (h0 : c ≠ 0) (T : Its) : escM (itL (hexI c) ++ (itL [32] ++ T)) = (c, T, false) := by
  have hr := Scal_r h
  obtain ⟨d, r, e⟩ := hexI_ne c
  have hd := hexI_hex c d (by rw [e]; simp)
  have hp : pk (itL (hexI c) ++ (itL [32] ++ T)) 0 = d := by rw [e]; rfl
  unfold escM
  rw [hp, if_neg (by omega)]
  rw [hexM_run (hexI c) 6 0 _ (fun x hx => (hexI_hex c x hx).1) (by rw [hexI_len]; exact hexL_len c hr.1 hr.2) (by show hexv 32 < 0; decide), hexL_fold c hr.1 hr.2]
  have hp2 : pk (itL [32] ++ T) 0 = 32 := rfl
  have h1 : isNl 32 = false := by decide
  have h2 : isSp 32 = true := by decide
  dsimp only
  rw [hp2, h1, h2, fixM_id c h h0]
  rfl

/-! ### Printed names as code points -/
def spC (rest : List Int) (last : Bool) : List Int :=
  match rest with
  | [] => if last then [32] else []
  | d :: _ => if d = 32 ∨ d = 9 ∨ 0 ≤ hexv d then [32] else []
def escC (k c : Int) (rest : List Int) (last : Bool) : List Int := if k = 0 then [c] else if k = 1 ∧ hexv c < 0 then [92, c] else 92 :: hexI c ++ if (hexL c).length < 6 then spC rest last else []
def slowC (a wh : Bool) : List Int → List Int
  | [] => []
  | c :: r => escC (esck a c) c r (wh && decide (esck a c ≠ 0) && r.isEmpty) ++ slowC a wh r
def identC (a wh : Bool) (i : Int) : List Int → List Int
  | [] => []
  | c :: r => escC (escF a i c) c r (wh && decide (escF a i c ≠ 0) && r.isEmpty) ++ slowC a wh r

theorem encd_head (d : Int) (h : Scal d) : ∃ b r, encd d = b :: r ∧ (d < 128 → (b.toNat : Int) = d) ∧ (128 ≤ d → 128 ≤ b.toNat) := by
  have hr := Scal_r h
  by_cases h1 : d < 128
  · exact ⟨_, _, encd1 h1, fun _ => by rw [ofNat_lt (by omega)]; omega, fun h => by omega⟩
  by_cases h2 : d < 2048
  · exact ⟨_, _, encd2 (by omega) h2, fun h => by omega, fun h => by rw [ofNat_lt (by omega)]; omega⟩
  by_cases h3 : d < 65536
  · exact ⟨_, _, encd3 (by omega) h3, fun h => by omega, fun h => by rw [ofNat_lt (by omega)]; omega⟩
  · exact ⟨_, _, encd4 (by omega), fun h => by omega, fun h => by rw [ofNat_lt (by omega)]; omega⟩
theorem spaced_spC (rest : List Int) (last : Bool) (h : ∀ d ∈ rest, Scal d) : spaced (encs rest) last = encs (spC rest last) := by
  have e32 : encs [32] = [32] := by decide
  match rest, h with
  | [], _ => cases last <;> simp [spaced, spC, encs_nil, e32]
  | d :: r, h =>
    obtain ⟨b, t, e, h1, h2⟩ := encd_head d (h d (by simp))
    rw [encs_cons, e]
    simp only [spaced, List.cons_append, spC]
    have hb := b.toNat_lt
    have hiff : (b.toNat = 32 ∨ b.toNat = 9 ∨ 0 ≤ hexv (b.toNat : Int)) ↔ (d = 32 ∨ d = 9 ∨ 0 ≤ hexv d) := by
      rw [hexv_ge, hexv_ge]
      by_cases q : d < 128
      · have := h1 q; omega
      · have := h2 (by omega); omega
    by_cases q : d = 32 ∨ d = 9 ∨ 0 ≤ hexv d
    · rw [if_pos (hiff.2 q), if_pos q, e32]
    · rw [if_neg (mt hiff.1 q), if_neg q, encs_nil]
theorem encs_escC (k c : Int) (rest : List Int) (last : Bool) (h : ∀ d ∈ rest, Scal d) : encs (escC k c rest last) = escP k c (encs rest) last := by
  have e92 : encd 92 = [92] := by decide
  unfold escC escP hexP
  split
  · simp [encs]
  split
  · simp [encs, e92]
  · rw [encs_app, encs_cons, e92, encs_hexI]
    split
    · rw [spaced_spC rest last h]; rfl
    · rfl
theorem encs_slowC (a wh : Bool) : ∀ (cs : List Int), (∀ d ∈ cs, Scal d) → encs (slowC a wh cs) = slowT a wh cs
  | [], _ => rfl
  | c :: r, h => by rw [slowC, slowT, encs_app, encs_escC _ _ _ _ fun d hd => h d (by simp [hd]), encs_slowC a wh r fun d hd => h d (by simp [hd])]
theorem encs_identC (a wh : Bool) (i : Int) : ∀ (cs : List Int), (∀ d ∈ cs, Scal d) → encs (identC a wh i cs) = identP a wh i cs
  | [], _ => rfl
  | c :: r, h => by rw [identC, identP, encs_app, encs_escC _ _ _ _ fun d hd => h d (by simp [hd]), encs_slowC a wh r fun d hd => h d (by simp [hd])]

/-- Code points that a plain text may have. -/
def Pl (c : Int) : Prop := Scal c ∧ c ≠ 0
theorem Pl_lo {c : Int} (h0 : 0 < c) (h1 : c < 128) : Pl c := ⟨by unfold Scal; omega, by omega⟩
theorem Pl_hexI (c : Int) : ∀ d ∈ hexI c, Pl d := by
  intro d hd
  have := hexI_hex c d hd
  have h := (hexv_ge d).1 this.1
  exact Pl_lo (by omega) (by omega)
theorem Pl_spC (rest : List Int) (last : Bool) : ∀ d ∈ spC rest last, Pl d := by
  intro d hd
  have : d = 32 := by
    unfold spC at hd
    split at hd <;> split at hd <;> simp at hd <;> exact hd
  subst this; exact Pl_lo (by decide) (by decide)
theorem Pl_escC (k c : Int) (rest : List Int) (last : Bool) (hc : Pl c) : ∀ d ∈ escC k c rest last, Pl d := by
  intro d hd
  unfold escC at hd
  split at hd
  · simp at hd; rw [hd]; exact hc
  split at hd
  · simp at hd; rcases hd with rfl | rfl
    · exact Pl_lo (by decide) (by decide)
    · exact hc
  · rcases List.mem_append.1 hd with hd | hd
    · rcases List.mem_cons.1 hd with rfl | hd
      · exact Pl_lo (by decide) (by decide)
      · exact Pl_hexI c d hd
    · split at hd
      · exact Pl_spC _ _ d hd
      · cases hd
theorem Pl_slowC (a wh : Bool) : ∀ (cs : List Int), (∀ d ∈ cs, Pl d) → ∀ d ∈ slowC a wh cs, Pl d
  | [], _, d, hd => by cases hd
  | c :: r, h, d, hd => by
    rw [slowC] at hd
    rcases List.mem_append.1 hd with hd | hd
    · exact Pl_escC _ _ _ _ (h c (by simp)) d hd
    · exact Pl_slowC a wh r (fun d hd => h d (by simp [hd])) d hd
theorem Pl_identC (a wh : Bool) (i : Int) : ∀ (cs : List Int), (∀ d ∈ cs, Pl d) → ∀ d ∈ identC a wh i cs, Pl d
  | [], _, d, hd => by cases hd
  | c :: r, h, d, hd => by
    rw [identC] at hd
    rcases List.mem_append.1 hd with hd | hd
    · exact Pl_escC _ _ _ _ (h c (by simp)) d hd
    · exact Pl_slowC a wh r (fun d hd => h d (by simp [hd])) d hd

/-! ### Reading them -/
theorem conts_co {c : Int} (h : nameCo c = true) (h0 : c ≠ 0) : conts c = true := by
  unfold nameCo at h; simpa [h0] using h
theorem nameM_step (k c : Int) (rest : List Int) (last : Bool) (T : Its) (n : Nat) (out : List UInt8) (op : Bool) (hc : Pl c) (hk : k = 0 ∧ nameCo c = true ∨ k = 1 ∧ isNl c = false ∨ k = 2)
    (hl : k ≠ 0 → ¬ (k = 1 ∧ hexv c < 0) → c < 1048576) (hT : k ≠ 0 → ¬ (k = 1 ∧ hexv c < 0) → spC rest last = [] → Good T) :
    nameM (n + 1) (itL (escC k c rest last) ++ T) out op = nameM n T (out ++ encd c) op := by
  have hr := Scal_r hc.1
  unfold escC
  by_cases h0 : k = 0
  · have hn : nameCo c = true := by rcases hk with ⟨_, h⟩ | ⟨h, _⟩ | h; exact h; omega; omega
    rw [if_pos h0, itL_cons, itL_nil, List.cons_append, List.nil_append, nameM, pk_0]
    simp only [conts_co hn hc.2, if_true, List.tail_cons]
  rw [if_neg h0]
  have c92 : conts 92 = false := by decide
  by_cases h1 : k = 1 ∧ hexv c < 0
  · have hn : isNl c = false := by rcases hk with ⟨h, _⟩ | ⟨_, h⟩ | h; omega; exact h; omega
    rw [if_pos h1]
    have he : escs 92 c = true := by simp [escs, hn]
    have hm : escM ((c, (encd c).length) :: T) = (c, T, false) := by
      unfold escM; rw [pk_0, if_pos h1.2, if_neg (by simp; omega)]; rfl
    simp only [itL_cons, itL_nil, List.cons_append, List.nil_append, nameM, pk_0, pk_s, c92, he, List.tail_cons, hm]
    simp
  rw [if_neg h1]
  have h5 := hexL_len5 c hr.1 (hl h0 h1)
  rw [if_pos h5]
  obtain ⟨d, r, e⟩ := hexI_ne c
  have hd := hexI_hex c d (by rw [e]; simp)
  have he : escs 92 d = true := by
    have := (hexv_ge d).1 hd.1
    simp [escs, isNl]; omega
  have hm : escM (itL (hexI c) ++ (itL (spC rest last) ++ T)) = (c, T, false) := by
    by_cases hs : spC rest last = []
    · rw [hs, itL_nil, List.nil_append]; exact escM_hex c hc.1 hc.2 T (hT h0 h1 hs)
    · have : spC rest last = [32] := by
        unfold spC at hs ⊢
        split <;> split <;> simp_all
      rw [this]; exact escM_hexb c hc.1 hc.2 T
  have hp1 : pk (itL (hexI c ++ spC rest last) ++ T) 0 = d := by rw [e]; rfl
  rw [List.cons_append, itL_cons, List.cons_append, nameM, pk_0, pk_s, hp1]
  simp only [c92, he, List.tail_cons]
  rw [itL_app, List.append_assoc, hm]
  simp

theorem Good_slow (a wh : Bool) (d : Int) (r : List Int) (last : Bool) (T : Its) (hd : Pl d) (h : spC (d :: r) last = []) : Good (itL (slowC a wh (d :: r)) ++ T) := by
  have hr := Scal_r hd.1
  have hq : ¬ (d = 32 ∨ d = 9 ∨ 0 ≤ hexv d) := by
    intro q; simp [spC, q] at h
  have g92 : ∀ X : Its, Good ((92, (encd 92).length) :: X) := fun X => by
    constructor
    · show hexv 92 < 0; decide
    · show isSp 92 = false; decide
  rw [slowC]
  unfold escC
  by_cases h0 : esck a d = 0
  · rw [if_pos h0]
    have hn : nameCo d = true := by
      unfold esck at h0
      split at h0
      · omega
      split at h0
      · assumption
      · omega
    constructor
    · show hexv d < 0
      omega
    · show isSp d = false
      have := conts_co hn hd.2
      simp [conts, starts, isDig] at this
      simp [isSp, isNl]; omega
  rw [if_neg h0]
  split
  · exact g92 _
  · exact g92 _

/-- What may stand behind a name. -/
structure After (wh : Bool) (T : Its) : Prop where
  c : conts (pk T 0) = false
  e : escs (pk T 0) (pk T 1) = false
  g : wh = false → Good T
theorem last_hex {wh : Bool} {k : Int} {T : Its} (hT : wh = false → Good T) (h0 : k ≠ 0) (hs : spC [] (wh && decide (k ≠ 0) && ([] : List Int).isEmpty) = []) : Good T := by
  cases wh
  · exact hT rfl
  · simp [spC, h0] at hs
theorem esck_cases (a : Bool) (c : Int) : esck a c = 0 ∧ nameCo c = true ∨ esck a c = 1 ∧ isNl c = false ∨ esck a c = 2 := by
  unfold esck
  split
  · simp
  rename_i h
  split
  · rename_i h2; exact .inl ⟨rfl, h2⟩
  · right; left
    refine ⟨rfl, ?_⟩
    simp [hexK] at h
    simp [isNl]; omega
theorem hexK_low {a : Bool} {c : Int} (h : hexK a c = true) (hl : a = true → c < 1048576) : c < 1048576 := by
  unfold hexK at h
  cases a
  · simp at h; omega
  · exact hl rfl
theorem hexv_low {c : Int} (h : ¬ hexv c < 0) : c < 1048576 := by
  have := (hexv_ge c).1 (by omega); omega
theorem esck_low {a : Bool} {c : Int} (hl : a = true → c < 1048576) : esck a c ≠ 0 → ¬ (esck a c = 1 ∧ hexv c < 0) → c < 1048576 := by
  intro h0 h1
  by_cases q : hexK a c = true
  · exact hexK_low q hl
  · refine hexv_low fun h => h1 ⟨?_, h⟩
    unfold esck at h0 ⊢
    rw [if_neg q] at h0 ⊢
    split
    · rename_i h2; simp [h2] at h0
    · rfl
theorem nameM_end (n : Nat) (T : Its) (out : List UInt8) (op : Bool) (hc : conts (pk T 0) = false) (he : escs (pk T 0) (pk T 1) = false) : nameM n T out op = (out, T, op) := by
  cases n
  · rfl
  · simp [nameM, hc, he]
theorem nameM_slow (a wh : Bool) : ∀ (cs : List Int) (T : Its) (n : Nat) (out : List UInt8) (op : Bool), (∀ c ∈ cs, Pl c) → (a = true → ∀ c ∈ cs, c < 1048576) → After wh T → cs.length ≤ n → nameM n (itL (slowC a wh cs) ++ T) out op = (out ++ encs cs, T, op)
  | [], T, n, out, op, _, _, hA, _ => by
    rw [slowC, itL_nil, List.nil_append, encs_nil, List.append_nil]; exact nameM_end n T out op hA.c hA.e
  | c :: r, T, n, out, op, hp, hl, hA, hn => by
    obtain ⟨m, rfl⟩ : ∃ m, n = m + 1 := ⟨n - 1, by simp at hn; omega⟩
    rw [slowC, itL_app, List.append_assoc, nameM_step _ _ _ _ _ _ _ _ (hp c (by simp)) (esck_cases a c) (esck_low fun ha => hl ha c (by simp)), nameM_slow a wh r T m _ op (fun d hd => hp d (by simp [hd])) (fun ha d hd => hl ha d (by simp [hd])) hA (by simp at hn; omega)]
    · rw [encs_cons, List.append_assoc]
    · intro h0 _ hs
      match r, hs with
      | [], hs => rw [slowC, itL_nil, List.nil_append]; exact last_hex hA.g h0 hs
      | d :: r, hs => exact Good_slow a wh d r _ T (hp d (by simp)) hs

theorem nameM_ident (a wh : Bool) (i c : Int) (r : List Int) (T : Its) (n : Nat) (out : List UInt8) (op : Bool) (hi : i = 0 ∨ i = 1 ∨ i = 2 ∧ c < 1048576) (hp : ∀ d ∈ c :: r, Pl d) (hl : a = true → ∀ d ∈ c :: r, d < 1048576) (hA : After wh T) (hn : r.length + 1 ≤ n) :
    nameM n (itL (identC a wh i (c :: r)) ++ T) out op = (out ++ encs (c :: r), T, op) := by
  obtain ⟨m, rfl⟩ : ∃ m, n = m + 1 := ⟨n - 1, by omega⟩
  have hk : escF a i c = 0 ∧ nameCo c = true ∨ escF a i c = 1 ∧ isNl c = false ∨ escF a i c = 2 := by
    unfold escF
    split
    · simp
    rename_i hx
    have hnl : isNl c = false := by simp [hexK] at hx; simp [isNl]; omega
    split
    · rcases hi with h | h | ⟨h, _⟩
      · contradiction
      · exact .inr (.inl ⟨h, hnl⟩)
      · exact .inr (.inr h)
    split
    · rename_i h2; exact .inl ⟨rfl, h2⟩
    · exact .inr (.inl ⟨rfl, hnl⟩)
  have hlow : escF a i c ≠ 0 → ¬ (escF a i c = 1 ∧ hexv c < 0) → c < 1048576 := by
    intro h0 h1
    by_cases q : hexK a c = true
    · exact hexK_low q fun ha => hl ha c (by simp)
    rcases hi with rfl | rfl | ⟨_, h⟩
    · refine hexv_low fun h => h1 ⟨?_, h⟩
      unfold escF at h0 ⊢
      rw [if_neg q, if_neg (by decide)] at h0 ⊢
      split
      · rename_i h2; simp [h2] at h0
      · rfl
    · refine hexv_low fun h => h1 ⟨?_, h⟩
      unfold escF
      rw [if_neg q, if_pos (by decide)]
    · exact h
  rw [identC, itL_app, List.append_assoc, nameM_step _ _ _ _ _ _ _ _ (hp c (by simp)) hk hlow, nameM_slow a wh r T m _ op (fun d hd => hp d (by simp [hd])) (fun ha d hd => hl ha d (by simp [hd])) hA (by omega)]
  · rw [encs_cons, List.append_assoc]
  · intro h0 _ hs
    match r, hs with
    | [], hs => rw [slowC, itL_nil, List.nil_append]; exact last_hex hA.g h0 hs
    | d :: r, hs => exact Good_slow a wh d r _ T (hp d (by simp)) hs

/-- How an escape begins. -/
theorem escC_esc (k c : Int) (rest : List Int) (last : Bool) (X : Its) (hk : k ≠ 0) (hn : k = 1 → isNl c = false) : pk (itL (escC k c rest last) ++ X) 0 = 92 ∧ isNl (pk (itL (escC k c rest last) ++ X) 1) = false := by
  unfold escC
  rw [if_neg hk]
  split
  · rename_i h; exact ⟨rfl, hn h.1⟩
  · refine ⟨rfl, ?_⟩
    obtain ⟨d, r, e⟩ := hexI_ne c
    have hd := hexI_hex c d (by rw [e]; simp)
    have := (hexv_ge d).1 hd.1
    rw [List.cons_append, itL_cons, List.cons_append, pk_s, e]
    show isNl d = false
    simp [isNl]; omega
theorem pk_itL_cons (c : Int) (l : List Int) (X : Its) : pk (itL (c :: l) ++ X) 0 = c := rfl
theorem pk_itL_cons1 (c : Int) (l : List Int) (X : Its) (k : Nat) : pk (itL (c :: l) ++ X) (k + 1) = pk (itL l ++ X) k := by rw [itL_cons, List.cons_append, pk_s]
theorem starts_st {c : Int} (h : nameSt c = true) (h0 : c ≠ 0) : starts c = true := by unfold nameSt at h; simpa [h0] using h
theorem idents_ident (a wh : Bool) (c : Int) (r : List Int) (T : Its) (hp : ∀ d ∈ c :: r, Pl d) (hT : pk T 0 ≠ 62) (mode : Int) (hm : mode = 0 ∨ mode = 2 ∨ mode = 3) :
    let L := itL (identC a wh (iniE mode (c :: r)) (c :: r)) ++ T
    idents (pk L 0) (pk L 1) (pk L 2) = true ∧ ¬ (pk L 0 = 45 ∧ pk L 1 = 45 ∧ pk L 2 = 62) := by
  intro L
  have hcp := hp c (by simp)
  have hesc : ∀ k : Int, k ≠ 0 → (k = 1 → isNl c = false) → ∀ last Y, idents (pk (itL (escC k c r last) ++ Y) 0) (pk (itL (escC k c r last) ++ Y) 1) (pk (itL (escC k c r last) ++ Y) 2) = true ∧ ¬ (pk (itL (escC k c r last) ++ Y) 0 = 45 ∧ pk (itL (escC k c r last) ++ Y) 1 = 45 ∧ pk (itL (escC k c r last) ++ Y) 2 = 62) := by
    intro k h0 h1 last Y
    obtain ⟨e1, e2⟩ := escC_esc k c r last Y h0 h1
    rw [e1]
    refine ⟨?_, by omega⟩
    simp [idents, escs, e2]
  have hL : L = itL (escC (escF a (iniE mode (c :: r)) c) c r (wh && decide (escF a (iniE mode (c :: r)) c ≠ 0) && r.isEmpty)) ++ (itL (slowC a wh r) ++ T) := by
    show itL (identC a wh _ (c :: r)) ++ T = _
    rw [identC, itL_app, List.append_assoc]
  rw [hL]
  by_cases hx : hexK a c = true
  · have : escF a (iniE mode (c :: r)) c = 2 := by unfold escF; rw [if_pos hx]
    rw [this]
    exact hesc 2 (by decide) (fun h => by omega) _ _
  have hnl : isNl c = false := by simp [hexK] at hx; simp [isNl]; omega
  by_cases h0 : escF a (iniE mode (c :: r)) c = 0
  · rw [h0]
    have hini : iniE mode (c :: r) = 0 ∧ nameCo c = true := by
      unfold escF at h0
      rw [if_neg hx] at h0
      split at h0
      · omega
      split at h0
      · rename_i h1 h2; exact ⟨by omega, h2⟩
      · omega
    have hw : wst (c :: r) = true := by
      by_cases q : wst (c :: r) = true
      · exact q
      · have h1 := hini.1
        unfold iniE at h1
        rw [if_neg (by omega), if_pos (by simpa using q)] at h1
        omega
    have e : escC 0 c r (wh && decide ((0 : Int) ≠ 0) && r.isEmpty) = [c] := rfl
    rw [e, pk_itL_cons, pk_itL_cons1, pk_itL_cons1, itL_nil, List.nil_append]
    simp only [wst, Bool.or_eq_true, Bool.and_eq_true, decide_eq_true_eq] at hw
    by_cases q : nameSt c = true
    · have hs := starts_st q hcp.2
      have h45 : c ≠ 45 := by rintro rfl; simp [starts] at hs
      refine ⟨by simp [idents, h45, hs], by omega⟩
    · obtain ⟨rfl, hd⟩ := hw.resolve_left q
      match r, hp, hd with
      | d :: r', hp, hd =>
        have hdp := hp d (by simp)
        simp only [Bool.or_eq_true, decide_eq_true_eq] at hd
        rw [slowC, itL_app, List.append_assoc]
        by_cases hd0 : esck a d = 0
        · rw [hd0]
          have e : ∀ x, escC 0 d r' x = [d] := fun _ => rfl
          rw [e, pk_itL_cons, pk_itL_cons1, itL_nil, List.nil_append]
          refine ⟨?_, ?_⟩
          · rcases hd with h | h
            · simp [idents, starts_st h hdp.2]
            · simp [idents, h]
          · rintro ⟨_, h45, h62⟩
            match r', hp with
            | [], _ => exact hT h62
            | f :: r'', hp =>
              rw [slowC, itL_app, List.append_assoc] at h62
              by_cases hf0 : esck a f = 0
              · rw [hf0] at h62
                have : f = 62 := h62
                subst this
                unfold esck at hf0
                split at hf0
                · omega
                split at hf0
                · rename_i h; exact absurd h (by decide)
                · omega
              · have := (escC_esc (esck a f) f r'' (wh && decide (esck a f ≠ 0) && r''.isEmpty) (itL (slowC a wh r'') ++ T) hf0 (fun h1 => by rcases esck_cases a f with ⟨h, _⟩ | ⟨_, h⟩ | h; omega; exact h; omega)).1
                omega
        · obtain ⟨e1, e2⟩ := escC_esc (esck a d) d r' (wh && decide (esck a d ≠ 0) && r'.isEmpty) (itL (slowC a wh r') ++ T) hd0 (fun h1 => by rcases esck_cases a d with ⟨h, _⟩ | ⟨_, h⟩ | h; omega; exact h; omega)
          rw [e1]
          refine ⟨?_, by omega⟩
          have he : escs 92 (pk (itL (escC (esck a d) d r' (wh && decide (esck a d ≠ 0) && r'.isEmpty)) ++ (itL (slowC a wh r') ++ T)) 1) = true := by unfold escs; rw [e2]; rfl
          unfold idents
          rw [if_pos rfl, he, Bool.or_true]
  · exact hesc _ h0 (fun _ => hnl) _ _
theorem hash_ident (a wh : Bool) (c : Int) (r : List Int) (T : Its) (hp : ∀ d ∈ c :: r, Pl d) : let L := itL (identC a wh 0 (c :: r)) ++ T
    conts (pk L 0) = true ∨ conts (pk L 0) = false ∧ escs (pk L 0) (pk L 1) = true := by
  intro L
  have hL : L = itL (escC (escF a 0 c) c r (wh && decide (escF a 0 c ≠ 0) && r.isEmpty)) ++ (itL (slowC a wh r) ++ T) := by
    show itL (identC a wh _ (c :: r)) ++ T = _
    rw [identC, itL_app, List.append_assoc]
  have he : escF a 0 c = esck a c := by simp [escF, esck]
  rw [hL, he]
  rcases esck_cases a c with ⟨h, h2⟩ | ⟨h, h2⟩ | h
  · rw [h]
    exact .inl (conts_co h2 (hp c (by simp)).2)
  all_goals
    obtain ⟨e1, e2⟩ := escC_esc (esck a c) c r (wh && decide (esck a c ≠ 0) && r.isEmpty) (itL (slowC a wh r) ++ T) (by omega) (fun h1 => by first | exact h2 | omega)
    right
    rw [e1]
    exact ⟨by decide, by unfold escs; rw [e2]; rfl⟩
/-- A name's beginning is no other token's. -/
theorem idents_not {x y z : Int} (h : idents x y z = true) : x ≠ -1 ∧ isSp x = false ∧ x ≠ 34 ∧ x ≠ 39 ∧ x ≠ 35 ∧ cnts x y z = false ∧ x ≠ 47 := by
  unfold idents at h
  split at h
  · rename_i e
    subst e
    refine ⟨by decide, by decide, by decide, by decide, by decide, ?_, by decide⟩
    simp [starts, escs] at h
    simp [cnts, isDig]
    omega
  · rename_i e
    simp [starts, escs] at h
    refine ⟨by omega, by simp [isSp, isNl]; omega, by omega, by omega, by omega, ?_, by omega⟩
    have h1 : isDig x = false := by simp [isDig]; omega
    have h2 : x ≠ 46 := by omega
    rw [cnts, if_neg (by omega), h1, decide_eq_false h2]; rfl
end Go.Proofs.YtkaejhdncohgpaaGreatFmt

/- Plain words: a text as pieces, each of which is read as one token. No program stands in this file, and no condition. -/
namespace Go.Proofs.YtkaejhdncohgpaaGreatFmt
set_option linter.all false
open Go.RowKit Go.Lib

/-- A piece of a text: the token that it is read as, and its code points. -/
structure Pc where
  k : Int
  un : Nat
  id : Bool
  tx : List UInt8
  cs : List Int
def csOf (l : List Pc) : List Int := l.flatMap (·.cs)
theorem csOf_cons (p : Pc) (l : List Pc) : csOf (p :: l) = p.cs ++ csOf l := by simp [csOf]
def tksOf : Nat → List Pc → List Tk
  | _, [] => []
  | st, p :: r => ⟨p.k, st, st + (encs p.cs).length, p.un, p.id, p.tx⟩ :: tksOf (st + (encs p.cs).length) r
inductive LexL (K : Nat) : List Pc → Prop
  | nil : LexL K []
  | cons (p : Pc) (r : List Pc) (hc : ¬ (pk (itL p.cs ++ itL (csOf r)) 0 = 47 ∧ pk (itL p.cs ++ itL (csOf r)) 1 = 42)) (h : NextR K (itL p.cs ++ itL (csOf r)) false p.k p.un p.id p.tx (itL (csOf r)) false) (hr : LexL K r) : LexL K (p :: r)
theorem tokR_of {K : Nat} {l : List Pc} (h : LexL K l) : ∀ (pre n : Nat), n = pre + (encs (csOf l)).length → TokR K n (itL (csOf l)) false (tksOf pre l) false := by
  induction h with
  | nil => intro pre n hn; exact .nil _ _ rfl
  | cons p r hc h hr ih =>
    intro pre n hn
    rw [csOf_cons, encs_app, List.length_append] at hn
    have e1 : n - wsum (itL p.cs ++ itL (csOf r)) = pre := by rw [wsum_app, wsum_itL, wsum_itL]; omega
    have e2 : n - wsum (itL (csOf r)) = pre + (encs p.cs).length := by rw [wsum_itL]; omega
    have := TokR.cons (n := n) _ _ _ _ _ _ _ _ _ _ hc h (ih (pre + (encs p.cs).length) n (by omega))
    rw [e1, e2] at this
    rw [csOf_cons, itL_app]
    exact this
/-- What is read of the tokens: those that are no whitespace, and whether whitespace is ahead of them. -/
def rdL : Bool → List Tk → List (Tk × Bool)
  | _, [] => []
  | sp, t :: r => if t.k = 38 then rdL true r else (t, sp) :: rdL false r
/-- An item that is expected. -/
structure It where
  k : Int
  un : Int
  tx : List UInt8
  sp : Int
/-- A token that was read is an item. -/
inductive IsR (text : List UInt8) (t : Tk) (x : It) : Prop
  | text (hk : t.k = x.k) (h : x.k = 29 ∨ x.k = 27 ∨ x.k = 1 ∨ x.k = 28 ∨ x.k = 36) (e : t.tx = x.tx)
  | close (hk : t.k = x.k) (h : x.k = 8 ∨ x.k = 7 ∨ x.k = 6)
  | raw (hk : t.k = x.k) (h1 : ¬ (x.k = 29 ∨ x.k = 27 ∨ x.k = 1 ∨ x.k = 28 ∨ x.k = 36)) (h2 : ¬ (x.k = 8 ∨ x.k = 7 ∨ x.k = 6)) (h3 : x.k ≠ 26) (e : (text.drop t.st).take (t.en - t.st) = x.tx)
  | dim (hk : t.k = x.k) (h : x.k = 26) (hu : (t.un : Int) = x.un) (hl : t.un ≤ t.en - t.st) (hl2 : t.un ≤ x.tx.length) (e : ((text.drop t.st).take (t.en - t.st)).take t.un = x.tx.take t.un)
      (d : (nameM ((t.en - t.st) + 1) (its (((text.drop t.st).take (t.en - t.st)).drop t.un)) [] false).1 = x.tx.drop t.un)

theorem piece_raw (pre : List UInt8) (p : Pc) (post : List UInt8) : ((pre ++ encs p.cs ++ post).drop pre.length).take (pre.length + (encs p.cs).length - pre.length) = encs p.cs := by
  rw [List.append_assoc, List.drop_left, Nat.add_sub_cancel_left, List.take_left]

/-! ### Pieces of the kinds that are printed -/
theorem its_itL (cs : List Int) (h : ∀ c ∈ cs, Pl c) : its (encs cs) = itL cs := its_encs cs fun c hc => (h c hc).1
theorem isSp_pk {T : Its} {c : Int} (h : pk T 0 = c) (hc : isSp c = false) : spM T = T := spM_no T (by rw [h]; exact hc)
theorem lex_space (K : Nat) (T : List Int) (h : isSp (pk (itL T) 0) = false) : NextR K (itL [32] ++ itL T) false 38 0 false [] (itL T) false := by
  have e : spM (itL [32] ++ itL T) = itL T := by
    have h1 := (spM_yes (itL [32] ++ itL T) (by show isSp 32 = true; decide)).1
    rw [h1]
    exact spM_no _ h
  have := NextR.space (K := K) (itL [32] ++ itL T) false (by show isSp 32 = true; decide)
  rw [e] at this
  exact this
theorem lex_nl (K : Nat) (T : List Int) (h : isSp (pk (itL T) 0) = false) : NextR K (itL [10] ++ itL T) false 38 0 false [] (itL T) false := by
  have e : spM (itL [10] ++ itL T) = itL T := by
    have h1 := (spM_yes (itL [10] ++ itL T) (by show isSp 10 = true; decide)).1
    rw [h1]
    exact spM_no _ h
  have := NextR.space (K := K) (itL [10] ++ itL T) false (by show isSp 10 = true; decide)
  rw [e] at this
  exact this
theorem lex_c41 (K : Nat) (T : List Int) : NextR K (itL [41] ++ itL T) false 8 0 false [] (itL T) false := NextR.c41 (K := K) (itL [41] ++ itL T) false rfl
theorem lex_c58 (K : Nat) (T : List Int) : NextR K (itL [58] ++ itL T) false 9 0 false [] (itL T) false := NextR.c58 (K := K) (itL [58] ++ itL T) false rfl
theorem lex_c59 (K : Nat) (T : List Int) : NextR K (itL [59] ++ itL T) false 35 0 false [] (itL T) false := NextR.c59 (K := K) (itL [59] ++ itL T) false rfl
/-- What may stand behind a name, in code points. -/
def Aft (wh : Bool) (T : List Int) : Prop := After wh (itL T) ∧ pk (itL T) 0 ≠ 62
theorem aft_cons (wh : Bool) (c : Int) (r : List Int) (hc : c = 59 ∨ c = 58 ∨ c = 40 ∨ c = 41 ∨ c = 32 ∧ wh = true) : Aft wh (c :: r) := by
  have e0 : pk (itL (c :: r)) 0 = c := rfl
  refine ⟨⟨?_, ?_, ?_⟩, ?_⟩
  · rw [e0]; rcases hc with rfl | rfl | rfl | rfl | ⟨rfl, _⟩ <;> decide
  · rw [e0]; rcases hc with rfl | rfl | rfl | rfl | ⟨rfl, _⟩ <;> simp [escs]
  · intro hw
    unfold Good
    rw [e0]; rcases hc with rfl | rfl | rfl | rfl | ⟨rfl, h⟩
    · decide
    · decide
    · decide
    · decide
    · rw [hw] at h; cases h
  · rw [e0]; rcases hc with rfl | rfl | rfl | rfl | ⟨rfl, _⟩ <;> decide
/-- A name that may be printed in a mode. -/
structure Nm (a : Bool) (cs : List Int) : Prop where
  pl : ∀ c ∈ cs, Pl c
  lo : a = true → ∀ c ∈ cs, c < 1048576
  ne : cs ≠ []
theorem lex_ident (K : Nat) (a wh : Bool) (cs T : List Int) (h : Nm a cs) (hA : Aft wh T) (hp : pk (itL T) 0 ≠ 40) (hK : cs.length ≤ K) : NextR K (itL (identC a wh (iniE 0 cs) cs) ++ itL T) false 29 0 false (encs cs) (itL T) false := by
  match cs, h, hK with
  | c :: r, h, hK =>
    obtain ⟨h1, h2⟩ := idents_ident a wh c r (itL T) h.pl hA.2 0 (.inl rfl)
    obtain ⟨n1, n2, n3, n4, n5, n6, _⟩ := idents_not h1
    have hi : iniE 0 (c :: r) = 0 ∨ iniE 0 (c :: r) = 1 ∨ iniE 0 (c :: r) = 2 ∧ c < 1048576 := by unfold iniE; rw [if_neg (by decide)]; split <;> simp
    have := nameM_ident a wh (iniE 0 (c :: r)) c r (itL T) K [] false hi h.pl h.lo hA.1 (by simpa using hK)
    exact .ident _ _ n1 n2 n3 n4 n5 n6 h2 h1 _ _ _ (by rw [this]; simp) hp
theorem lex_func (K : Nat) (a wh : Bool) (cs T : List Int) (h : Nm a cs) (hu : isUrlB (encs cs) = false) (hK : cs.length ≤ K) : NextR K (itL (identC a wh (iniE 0 cs) cs ++ [40]) ++ itL T) false 27 0 false (encs cs) (itL T) false := by
  match cs, h, hK, hu with
  | c :: r, h, hK, hu =>
    have hA : Aft wh (40 :: T) := aft_cons wh 40 T (.inr (.inr (.inl rfl)))
    obtain ⟨h1, h2⟩ := idents_ident a wh c r (itL (40 :: T)) h.pl hA.2 0 (.inl rfl)
    obtain ⟨n1, n2, n3, n4, n5, n6, _⟩ := idents_not h1
    have hi : iniE 0 (c :: r) = 0 ∨ iniE 0 (c :: r) = 1 ∨ iniE 0 (c :: r) = 2 ∧ c < 1048576 := by unfold iniE; rw [if_neg (by decide)]; split <;> simp
    have := nameM_ident a wh (iniE 0 (c :: r)) c r (itL (40 :: T)) K [] false hi h.pl h.lo hA.1 (by simpa using hK)
    have e : itL (identC a wh (iniE 0 (c :: r)) (c :: r) ++ [40]) ++ itL T = itL (identC a wh (iniE 0 (c :: r)) (c :: r)) ++ itL (40 :: T) := by rw [itL_app, List.append_assoc]; rfl
    rw [e]
    exact .func _ _ n1 n2 n3 n4 n5 n6 h2 h1 _ (itL (40 :: T)) _ (by rw [this]; simp) rfl hu
theorem lex_hash (K : Nat) (a wh : Bool) (cs T : List Int) (h : Nm a cs) (hA : Aft wh T) (hK : cs.length ≤ K) : ∃ id, NextR K (itL (35 :: identC a wh 0 cs) ++ itL T) false 28 0 id (encs cs) (itL T) false := by
  match cs, h, hK with
  | c :: r, h, hK =>
    have h1 := hash_ident a wh c r (itL T) h.pl
    have := nameM_ident a wh 0 c r (itL T) K [] false (.inl rfl) h.pl h.lo hA.1 (by simpa using hK)
    refine ⟨_, .hash (K := K) (itL (35 :: identC a wh 0 (c :: r)) ++ itL T) false rfl ?_ (encs (c :: r)) _ _ ?_⟩
    · rw [pk_itL_cons1, pk_itL_cons1]; exact h1
    · rw [itL_cons, List.cons_append, List.tail_cons, this]; simp
theorem lex_at (K : Nat) (a wh : Bool) (cs T : List Int) (h : Nm a cs) (hA : Aft wh T) (hK : cs.length ≤ K) : NextR K (itL (64 :: identC a wh (iniE 0 cs) cs) ++ itL T) false 1 0 false (encs cs) (itL T) false := by
  match cs, h, hK with
  | c :: r, h, hK =>
    obtain ⟨h1, h2⟩ := idents_ident a wh c r (itL T) h.pl hA.2 0 (.inl rfl)
    have hi : iniE 0 (c :: r) = 0 ∨ iniE 0 (c :: r) = 1 ∨ iniE 0 (c :: r) = 2 ∧ c < 1048576 := by unfold iniE; rw [if_neg (by decide)]; split <;> simp
    have := nameM_ident a wh (iniE 0 (c :: r)) c r (itL T) K [] false hi h.pl h.lo hA.1 (by simpa using hK)
    refine .atk (K := K) (itL (64 :: identC a wh (iniE 0 (c :: r)) (c :: r)) ++ itL T) false rfl ?_ (encs (c :: r)) _ _ ?_
    · rw [pk_itL_cons1, pk_itL_cons1, pk_itL_cons1]; exact h1
    · rw [itL_cons, List.cons_append, List.tail_cons, this]; simp
end Go.Proofs.YtkaejhdncohgpaaGreatFmt

/- Plain words: numbers as they are printed, and what the reference's lexer reads of them. No program stands in this file, and no condition. -/
namespace Go.Proofs.YtkaejhdncohgpaaGreatFmt
set_option linter.all false
open Go.RowKit Go.Lib

/-- A number: its sign, digits, digits behind a point, and the power (its sign, its digits). -/
structure Nu where
  sg : List Int
  w : List Int
  f : List Int
  ex : Option (List Int × List Int)
structure Nu.Ok (n : Nu) : Prop where
  sg : n.sg = [] ∨ n.sg = [43] ∨ n.sg = [45]
  w : ∀ d ∈ n.w, isDig d = true
  f : ∀ d ∈ n.f, isDig d = true
  ne : n.w ≠ [] ∨ n.f ≠ []
  ex : ∀ s d, n.ex = some (s, d) → (s = [] ∨ s = [43] ∨ s = [45]) ∧ (∀ x ∈ d, isDig x = true) ∧ d ≠ []
def Nu.fr (n : Nu) : List Int := if n.f = [] then [] else 46 :: n.f
def Nu.exC (n : Nu) : List Int := match n.ex with | none => [] | some (s, d) => 101 :: (s ++ d)
def Nu.cs (n : Nu) : List Int := n.sg ++ (n.w ++ (n.fr ++ n.exC))

theorem digM_run : ∀ (l : List Int) (T : Its), (∀ d ∈ l, isDig d = true) → isDig (pk T 0) = false → digM (itL l ++ T) = T
  | [], T, _, h => digM_no T h
  | d :: l, T, hd, h => by
    have h1 := (digM_yes (itL (d :: l) ++ T) (hd d (by simp))).1
    rw [h1]
    exact digM_run l T (fun x hx => hd x (by simp [hx])) h
theorem isDig_iff {c : Int} : isDig c = true ↔ 48 ≤ c ∧ c ≤ 57 := by simp [isDig]
theorem isDig_not {c : Int} : isDig c = false ↔ ¬ (48 ≤ c ∧ c ≤ 57) := by simp [isDig]
/-- What stands behind a number: no digit, no point, no power of ten (if there is none yet). -/
structure NAft (n : Nu) (X : Its) : Prop where
  d : isDig (pk X 0) = false
  p : pk X 0 ≠ 46
  e : n.ex = none → isExp X = false
theorem pk_app_ne (c : Int) (l : List Int) (X : Its) (k : Nat) : pk (itL (c :: l) ++ X) (k + 1) = pk (itL l ++ X) k := pk_itL_cons1 c l X k

theorem signM_nu (n : Nu) (h : n.Ok) (X : Its) : signM (itL n.cs ++ X) = itL (n.w ++ (n.fr ++ n.exC)) ++ X := by
  unfold Nu.cs
  rcases h.sg with e | e | e
  · rw [e, List.nil_append]
    unfold signM
    rw [if_neg]
    cases hw : n.w with
    | cons d r =>
      have := isDig_iff.1 (h.w d (by rw [hw]; simp))
      show ¬ (d = 43 ∨ d = 45)
      omega
    | nil =>
      have hf : n.f ≠ [] := by rcases h.ne with h | h; exact absurd hw h; exact h
      rw [Nu.fr, if_neg hf]
      show ¬ ((46 : Int) = 43 ∨ (46 : Int) = 45)
      omega
  · rw [e]; rfl
  · rw [e]; rfl
theorem exC_pk (n : Nu) (X : Its) (hd : isDig (pk X 0) = false) (hp : pk X 0 ≠ 46) : isDig (pk (itL n.exC ++ X) 0) = false ∧ pk (itL n.exC ++ X) 0 ≠ 46 := by
  unfold Nu.exC
  split
  · exact ⟨hd, hp⟩
  · exact ⟨by show isDig 101 = false; decide, by show (101 : Int) ≠ 46; decide⟩
theorem fracM_nu (n : Nu) (h : n.Ok) (X : Its) (hX : NAft n X) : fracM (digM (itL (n.w ++ (n.fr ++ n.exC)) ++ X)) false = (itL n.exC ++ X, false) := by
  obtain ⟨e1, e2⟩ := exC_pk n X hX.d hX.p
  rw [itL_app, List.append_assoc, itL_app, List.append_assoc]
  unfold Nu.fr
  by_cases hf : n.f = []
  · rw [if_pos hf, itL_nil, List.nil_append, digM_run _ _ h.w e1]
    simp [fracM, e2]
  · rw [if_neg hf, digM_run _ _ h.w (by show isDig 46 = false; decide)]
    match hf' : n.f, hf with
    | d :: r, _ =>
      have hd := h.f d (by rw [hf']; simp)
      unfold fracM
      rw [if_pos ⟨rfl, hd⟩]
      have : digM (itL (46 :: d :: r) ++ (itL n.exC ++ X)).tail = itL n.exC ++ X := by
        show digM (itL (d :: r) ++ (itL n.exC ++ X)) = _
        exact digM_run _ _ (by rw [← hf']; exact h.f) e1
      rw [this]
theorem expM_nu (n : Nu) (h : n.Ok) (X : Its) (hX : NAft n X) : expM (itL n.exC ++ X) = X := by
  unfold Nu.exC
  match hex : n.ex with
  | none =>
    unfold expM
    rw [itL_nil, List.nil_append, if_neg (by rw [hX.e hex]; decide)]
  | some (s, d) =>
    obtain ⟨hs, hd, hne⟩ := h.ex s d hex
    match d, hne with
    | x :: r, _ =>
      have hx := hd x (by simp)
      rcases hs with rfl | rfl | rfl
      · have he : isExp (itL (101 :: ([] ++ x :: r)) ++ X) = true := by
          have e0 : pk (itL (101 :: ([] ++ x :: r)) ++ X) 0 = 101 := rfl
          have e1 : pk (itL (101 :: ([] ++ x :: r)) ++ X) 1 = x := rfl
          unfold isExp
          rw [e0, e1, hx]; rfl
        unfold expM
        rw [if_pos he]
        exact digM_run r X (fun y hy => hd y (by simp [hy])) hX.d
      all_goals
        unfold expM
        rw [if_pos (by
          unfold isExp
          simp only [List.cons_append, List.nil_append]
          simp only [pk_itL_cons, pk_itL_cons1, hx]
          decide)]
        exact digM_run (x :: r) X hd hX.d
theorem cnts_nu (n : Nu) (h : n.Ok) (X : Its) : cnts (pk (itL n.cs ++ X) 0) (pk (itL n.cs ++ X) 1) (pk (itL n.cs ++ X) 2) = true := by
  have base : ∀ Y : Its, Y = itL (n.w ++ (n.fr ++ n.exC)) ++ X → isDig (pk Y 0) = true ∨ pk Y 0 = 46 ∧ isDig (pk Y 1) = true := by
    rintro Y rfl
    cases hw : n.w with
    | cons d r => exact .inl (h.w d (by rw [hw]; simp))
    | nil =>
      have hf : n.f ≠ [] := by rcases h.ne with h | h; exact absurd hw h; exact h
      rw [Nu.fr, if_neg hf]
      match hf' : n.f, hf with
      | d :: r, _ => exact .inr ⟨rfl, h.f d (by rw [hf']; simp)⟩
  have b := base _ rfl
  unfold Nu.cs
  rcases h.sg with e | e | e
  · rw [e, List.nil_append]
    unfold cnts
    rcases b with b | ⟨b1, b2⟩
    · have := isDig_iff.1 b
      rw [if_neg (by omega), b]; rfl
    · rw [b1, b2, if_neg (by decide)]; rfl
  all_goals
    rw [e, List.cons_append, List.nil_append, pk_itL_cons, pk_itL_cons1, pk_itL_cons1]
    unfold cnts
    rcases b with b | ⟨b1, b2⟩
    · rw [if_pos (by omega), b]; rfl
    · rw [if_pos (by omega), b1, b2]; decide
theorem nu_first (n : Nu) (h : n.Ok) (X : Its) : let c := pk (itL n.cs ++ X) 0; c ≠ -1 ∧ isSp c = false ∧ c ≠ 34 ∧ c ≠ 39 ∧ c ≠ 35 ∧ c ≠ 47 := by
  intro c
  have hc : c = 43 ∨ c = 45 ∨ c = 46 ∨ 48 ≤ c ∧ c ≤ 57 := by
    show pk (itL n.cs ++ X) 0 = 43 ∨ pk (itL n.cs ++ X) 0 = 45 ∨ pk (itL n.cs ++ X) 0 = 46 ∨ 48 ≤ pk (itL n.cs ++ X) 0 ∧ pk (itL n.cs ++ X) 0 ≤ 57
    unfold Nu.cs
    rcases h.sg with e | e | e
    · rw [e, List.nil_append]
      cases hw : n.w with
      | cons d r => right; right; right; have := isDig_iff.1 (h.w d (by rw [hw]; simp)); exact this
      | nil =>
        have hf : n.f ≠ [] := by rcases h.ne with h | h; exact absurd hw h; exact h
        rw [Nu.fr, if_neg hf]
        right; right; left; rfl
    · left; rw [e]; rfl
    · right; left; rw [e]; rfl
  refine ⟨by omega, ?_, by omega, by omega, by omega, by omega⟩
  simp [isSp, isNl]; omega
theorem numM_nu (K : Nat) (n : Nu) (h : n.Ok) (X : Its) (hX : NAft n X) : numM K (itL n.cs ++ X) false =
    if idents (pk X 0) (pk X 1) (pk X 2) then (26, (encs n.cs).length, (nameM K X [] false).2.1, (nameM K X [] false).2.2)
    else if pk X 0 = 37 then (34, 0, X.tail, false) else (30, 0, X, false) := by
  unfold numM
  rw [signM_nu n h X, fracM_nu n h X hX]
  dsimp only
  rw [expM_nu n h X hX, wsum_app, wsum_itL, Nat.add_sub_cancel]
theorem lex_num (K : Nat) (n : Nu) (h : n.Ok) (T : List Int) (hT : pk (itL T) 0 = 32 ∨ pk (itL T) 0 = 59) : NextR K (itL n.cs ++ itL T) false 30 0 false [] (itL T) false := by
  have hX : NAft n (itL T) := by
    refine ⟨?_, by omega, fun _ => ?_⟩
    · rcases hT with h | h <;> rw [h] <;> decide
    · unfold isExp; rcases hT with h | h <;> rw [h] <;> rfl
  obtain ⟨a1, a2, a3, a4, a5, a6⟩ := nu_first n h (itL T)
  have hi : idents (pk (itL T) 0) (pk (itL T) 1) (pk (itL T) 2) = false := by rcases hT with h | h <;> rw [h] <;> simp [idents, starts, escs]
  have := numM_nu K n h (itL T) hX
  rw [hi, if_neg (by simp), if_neg (by omega)] at this
  exact .num _ _ a1 a2 a3 a4 a5 (cnts_nu n h _) _ _ _ _ (by decide) this
theorem lex_pct (K : Nat) (n : Nu) (h : n.Ok) (T : List Int) : NextR K (itL (n.cs ++ [37]) ++ itL T) false 34 0 false [] (itL T) false := by
  have e : itL (n.cs ++ [37]) ++ itL T = itL n.cs ++ itL (37 :: T) := by rw [itL_app, List.append_assoc]; rfl
  rw [e]
  have e0 : pk (itL (37 :: T)) 0 = 37 := rfl
  have hX : NAft n (itL (37 :: T)) := by
    refine ⟨by rw [e0]; decide, by rw [e0]; decide, fun _ => ?_⟩
    unfold isExp; rw [e0]; rfl
  obtain ⟨a1, a2, a3, a4, a5, a6⟩ := nu_first n h (itL (37 :: T))
  have hi : idents (pk (itL (37 :: T)) 0) (pk (itL (37 :: T)) 1) (pk (itL (37 :: T)) 2) = false := by rw [e0]; simp [idents, starts, escs]
  have := numM_nu K n h (itL (37 :: T)) hX
  rw [hi, if_neg (by simp), if_pos e0] at this
  exact .num _ _ a1 a2 a3 a4 a5 (cnts_nu n h _) _ _ _ _ (by decide) this

/-- How a name as a unit begins: no digit, no point, and (mode 2) no power of ten. -/
theorem slow_head (a wh : Bool) (d : Int) (r : List Int) (T : Its) : pk (itL (slowC a wh (d :: r)) ++ T) 0 = 92 ∨ pk (itL (slowC a wh (d :: r)) ++ T) 0 = d ∧ esck a d = 0 ∧ ∀ k, pk (itL (slowC a wh (d :: r)) ++ T) (k + 1) = pk (itL (slowC a wh r) ++ T) k := by
  rw [slowC, itL_app, List.append_assoc]
  by_cases h0 : esck a d = 0
  · right
    rw [h0]
    exact ⟨rfl, rfl, fun k => pk_itL_cons1 d [] _ k⟩
  · left
    exact (escC_esc (esck a d) d r _ _ h0 (fun h1 => by rcases esck_cases a d with ⟨h, _⟩ | ⟨_, h⟩ | h; omega; exact h; omega)).1
theorem ini2 {c d : Int} {r : List Int} (hw : wst (c :: d :: r) = true) (h : iniE 2 (c :: d :: r) = 0) (q : c = 101 ∨ c = 69) : isDig d = false ∧ (d = 45 → ∀ e r', r = e :: r' → isDig e = false) := by
  unfold iniE at h
  rw [if_neg (by decide), if_neg (by rw [hw]; decide), if_neg (by decide)] at h
  have h2 := ite_eq_right_iff.1 h
  refine ⟨?_, ?_⟩
  · cases hd : isDig d
    · rfl
    · exact absurd (h2 ⟨q, by decide, .inl hd⟩) (by decide)
  · rintro h45 e r' rfl
    cases he : isDig e
    · rfl
    · exact absurd (h2 ⟨q, by decide, .inr ⟨h45, he⟩⟩) (by decide)
theorem unit_head (a wh : Bool) (n : Nu) (c : Int) (r : List Int) (T : Its) (hp : ∀ d ∈ c :: r, Pl d) (hT : isDig (pk T 0) = false ∧ pk T 0 ≠ 43 ∧ pk T 0 ≠ 45) :
    NAft n (itL (identC a wh (iniE (if n.ex = none then 2 else 3) (c :: r)) (c :: r)) ++ T) := by
  obtain ⟨mode, hm⟩ : ∃ m : Int, m = if n.ex = none then 2 else 3 := ⟨_, rfl⟩
  rw [← hm]
  have hmode : mode ≠ 0 ∧ mode ≠ 1 := by rw [hm]; split <;> decide
  have hL : itL (identC a wh (iniE mode (c :: r)) (c :: r)) ++ T = itL (escC (escF a (iniE mode (c :: r)) c) c r (wh && decide (escF a (iniE mode (c :: r)) c ≠ 0) && r.isEmpty)) ++ (itL (slowC a wh r) ++ T) := by
    rw [identC, itL_app, List.append_assoc]
  have hesc : ∀ Y : Its, pk Y 0 = 92 → NAft n Y := fun Y h => ⟨by rw [h]; decide, by rw [h]; decide, fun _ => by unfold isExp; rw [h]; rfl⟩
  by_cases hx : hexK a c = true
  · refine hesc _ ?_
    rw [hL]
    have : escF a (iniE mode (c :: r)) c = 2 := by unfold escF; rw [if_pos hx]
    rw [this]
    exact (escC_esc 2 c r _ _ (by decide) (fun h => by omega)).1
  have hnl : isNl c = false := by simp [hexK] at hx; simp [isNl]; omega
  by_cases h0 : escF a (iniE mode (c :: r)) c = 0
  · have hini : iniE mode (c :: r) = 0 ∧ nameCo c = true := by
      unfold escF at h0
      rw [if_neg hx] at h0
      split at h0
      · omega
      split at h0
      · rename_i h1 h2; exact ⟨by omega, h2⟩
      · omega
    have hw : wst (c :: r) = true := by
      by_cases q : wst (c :: r) = true
      · exact q
      · have h1 := hini.1
        unfold iniE at h1
        rw [if_neg (by omega), if_pos (by simpa using q)] at h1
        omega
    have hcs : starts c = true ∨ c = 45 := by
      simp only [wst, Bool.or_eq_true, Bool.and_eq_true, decide_eq_true_eq] at hw
      rcases hw with h | h
      · exact .inl (starts_st h (hp c (by simp)).2)
      · exact .inr h.1
    have e : escC (escF a (iniE mode (c :: r)) c) c r (wh && decide (escF a (iniE mode (c :: r)) c ≠ 0) && r.isEmpty) = [c] := by rw [h0]; rfl
    rw [hL, e]
    have hc0 : ¬ (48 ≤ c ∧ c ≤ 57) ∧ c ≠ 46 := by
      rcases hcs with h | h
      · simp [starts] at h; omega
      · omega
    refine ⟨by rw [pk_itL_cons]; exact isDig_not.2 hc0.1, by rw [pk_itL_cons]; exact hc0.2, fun hex => ?_⟩
    rw [if_pos hex] at hm
    subst hm
    have h1 := hini.1
    unfold isExp
    rw [pk_itL_cons, pk_itL_cons1, pk_itL_cons1, itL_nil, List.nil_append]
    by_cases q : c = 101 ∨ c = 69
    · rw [decide_eq_true q, Bool.true_and]
      match r, hp, h1, hw with
      | [], _, _, _ =>
        rw [slowC, itL_nil, List.nil_append, hT.1, Bool.false_or]
        have : ¬ (pk T 0 = 43 ∨ pk T 0 = 45) := by omega
        rw [decide_eq_false this]; rfl
      | d :: r', hp, h1, hw =>
        have hr' : ∀ x ∈ d :: r', Pl x := fun x hx => hp x (by simp at hx ⊢; exact .inr hx)
        rcases slow_head a wh d r' T with h92 | ⟨hd, hd0, hk⟩
        · rw [h92]; rfl
        · rw [hd, hk 0]
          obtain ⟨hd1, hd2⟩ := ini2 hw h1 q
          rw [hd1, Bool.false_or]
          by_cases h45 : d = 45
          · subst h45
            match r', hr', hd2 with
            | [], _, _ =>
              rw [slowC, itL_nil, List.nil_append, hT.1, Bool.and_false]
            | e :: r'', hr', hd2 =>
              have he : isDig e = false := hd2 rfl e r'' rfl
              rcases slow_head a wh e r'' T with g | ⟨g, _, _⟩
              · rw [g]; rfl
              · rw [g, he, Bool.and_false]
          · have h43 : d ≠ 43 := by
              rintro rfl
              have : esck a 43 = 1 := by unfold esck hexK; cases a <;> decide
              omega
            rw [decide_eq_false (by omega)]; rfl
    · rw [decide_eq_false q]; rfl
  · refine hesc _ ?_
    rw [hL]
    exact (escC_esc _ c r _ _ h0 (fun _ => hnl)).1
theorem ite20 (P : Prop) [Decidable P] : (if P then (2 : Int) else 0) = 0 ∨ (if P then (2 : Int) else 0) = 2 ∧ P := by
  by_cases h : P
  · right; rw [if_pos h]; exact ⟨rfl, h⟩
  · left; rw [if_neg h]
theorem iniE_cases (mode c : Int) (r : List Int) : iniE mode (c :: r) = 0 ∨ iniE mode (c :: r) = 1 ∨ iniE mode (c :: r) = 2 ∧ c < 1048576 := by
  unfold iniE
  by_cases h1 : mode = 1
  · rw [if_pos h1]; exact .inl rfl
  rw [if_neg h1]
  by_cases h2 : wst (c :: r) = false
  · rw [if_pos h2]; exact .inr (.inl rfl)
  rw [if_neg h2]
  by_cases h3 : mode = 0
  · rw [if_pos h3]; exact .inl rfl
  rw [if_neg h3]
  clear h2
  match r with
  | [] => exact .inl rfl
  | d :: r' =>
    rcases ite20 ((c = 101 ∨ c = 69) ∧ mode ≠ 3 ∧ (isDig d = true ∨ d = 45 ∧ (match r' with | e :: _ => isDig e | [] => false) = true)) with h | ⟨h, hp⟩
    · exact .inl h
    · have := hp.1
      exact .inr (.inr ⟨h, by omega⟩)
theorem lex_dim (K : Nat) (a wh : Bool) (n : Nu) (hn : n.Ok) (cs T : List Int) (h : Nm a cs) (hA : Aft wh T) (hT : isDig (pk (itL T) 0) = false ∧ pk (itL T) 0 ≠ 43 ∧ pk (itL T) 0 ≠ 45) (hK : cs.length ≤ K) :
    NextR K (itL (n.cs ++ identC a wh (iniE (if n.ex = none then 2 else 3) cs) cs) ++ itL T) false 26 (encs n.cs).length false [] (itL T) false := by
  match cs, h, hK with
  | c :: r, h, hK =>
    have hX := unit_head a wh n c r (itL T) h.pl hT
    rw [itL_app, List.append_assoc]
    obtain ⟨a1, a2, a3, a4, a5, a6⟩ := nu_first n hn (itL (identC a wh (iniE (if n.ex = none then 2 else 3) (c :: r)) (c :: r)) ++ itL T)
    have hm := numM_nu K n hn _ hX
    have hid := (idents_ident a wh c r (itL T) h.pl hA.2 (if n.ex = none then 2 else 3) (by split <;> simp)).1
    have hnm := nameM_ident a wh (iniE (if n.ex = none then 2 else 3) (c :: r)) c r (itL T) K [] false (iniE_cases _ c r) h.pl h.lo hA.1 (by simpa using hK)
    rw [if_pos hid, hnm] at hm
    exact .num _ _ a1 a2 a3 a4 a5 (cnts_nu n hn _) _ _ _ _ (by decide) hm
/-- A unit, decoded again. -/
theorem unit_back (K : Nat) (a wh : Bool) (mode : Int) (cs : List Int) (h : Nm a cs) (hK : cs.length ≤ K) : (nameM K (itL (identC a wh (iniE mode cs) cs)) [] false).1 = encs cs := by
  match cs, h, hK with
  | c :: r, h, hK =>
    have hA : After wh ([] : Its) := ⟨by decide, by decide, fun _ => ⟨by show hexv (-1) < 0; decide, by show isSp (-1) = false; decide⟩⟩
    have := nameM_ident a wh (iniE mode (c :: r)) c r [] K [] false (iniE_cases mode c r) h.pl h.lo hA (by simpa using hK)
    rw [List.append_nil] at this
    rw [this]; simp
end Go.Proofs.YtkaejhdncohgpaaGreatFmt
