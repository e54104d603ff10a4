/- Plain functions, in the words of the reference's lexer: code points, tests on them, and a text as a list of code points with their widths; Plain functions: what the reference's lexer takes of a list of code points; Plain functions: what the reference's lexer takes of a list of code points: texts in quotes, numbers; Plain functions: what the reference's lexer takes of a list of code points: numbers, names; Plain words: the tokens of a text, as the reference's lexer reads them (no comment, no address); Plain words: texts as code points, and their bytes. -/
import GoSem.Core.Utf8
/- Plain functions, in the words of the reference's lexer: code points, tests on them, and a text as a list of code points with their widths. No program stands in this file, and no condition. -/
namespace Go.Proofs.YtkaejhdncohgpaaGreatFmt
set_option linter.all false

def starts (c : Int) : Bool := decide (97 ≤ c ∧ c ≤ 122 ∨ 65 ≤ c ∧ c ≤ 90 ∨ c = 95 ∨ 128 ≤ c)
def isDig (c : Int) : Bool := decide (48 ≤ c ∧ c ≤ 57)
def conts (c : Int) : Bool := starts c || isDig c || decide (c = 45)
def isNl (c : Int) : Bool := decide (c = 10 ∨ c = 13 ∨ c = 12)
def isSp (c : Int) : Bool := isNl c || decide (c = 9 ∨ c = 32)
def hexv (c : Int) : Int := if isDig c then c - 48 else if 97 ≤ c ∧ c ≤ 102 then c - 87 else if 65 ≤ c ∧ c ≤ 70 then c - 55 else -1
def unpr (c : Int) : Bool := decide (0 ≤ c ∧ c ≤ 8 ∨ c = 11 ∨ 14 ≤ c ∧ c ≤ 31 ∨ c = 127)
def escs (a b : Int) : Bool := decide (a = 92) && !isNl b
def idents (a b c : Int) : Bool := if a = 45 then starts b || decide (b = 45) || escs b c else starts a || escs a b
def cnts (a b c : Int) : Bool := if a = 43 ∨ a = 45 then isDig b || (decide (b = 46) && isDig c) else isDig a || (decide (a = 46) && isDig b)

/-- The bytes of a code point, as package spec encodes it (bytes that are none are what the code gives). -/
def encd (c : Int) : List UInt8 :=
  if c < 128 then [UInt8.ofNat (c % 256).toNat]
  else if c < 2048 then [UInt8.ofNat (192 + c.toNat / 64), UInt8.ofNat (128 + c.toNat % 64)]
  else if c < 65536 then [UInt8.ofNat (224 + c.toNat / 4096), UInt8.ofNat (128 + c.toNat / 64 % 64), UInt8.ofNat (128 + c.toNat % 64)]
  else [UInt8.ofNat (240 + c.toNat / 262144), UInt8.ofNat (128 + c.toNat / 4096 % 64), UInt8.ofNat (128 + c.toNat / 64 % 64), UInt8.ofNat (128 + c.toNat % 64)]

/-- n further bytes of a code point behind its first one. -/
def goC : Nat → Nat → List UInt8 → Option Nat
  | 0, a, _ => some a
  | _ + 1, _, [] => none
  | n + 1, a, b :: t => if b.toNat / 64 = 2 then goC n (a * 64 + b.toNat % 64) t else none
def fin (n low : Nat) : Option Nat → Int × Nat
  | none => (-2, 1)
  | some c => if c < low ∨ 1114111 < c ∨ 55296 ≤ c ∧ c < 57344 then (-2, 1) else (c, n)
/-- The code point with which bytes begin, and its width: -1, 0 where there are none, -2, 1 where they are no UTF-8. -/
def raL : List UInt8 → Int × Nat
  | [] => (-1, 0)
  | b :: t => if b.toNat < 128 then (b.toNat, 1) else if 194 ≤ b.toNat ∧ b.toNat < 224 then fin 2 128 (goC 1 (b.toNat % 32) t)
      else if 224 ≤ b.toNat ∧ b.toNat < 240 then fin 3 2048 (goC 2 (b.toNat % 16) t)
      else if 240 ≤ b.toNat ∧ b.toNat < 245 then fin 4 65536 (goC 3 (b.toNat % 8) t) else (-2, 1)

theorem goC_len : ∀ (n a : Nat) (l : List UInt8) (c : Nat), goC n a l = some c → n ≤ l.length
  | 0, _, _, _, _ => Nat.zero_le _
  | n + 1, a, [], c, h => by simp [goC] at h
  | n + 1, a, b :: t, c, h => by
    simp only [goC] at h
    split at h
    · have := goC_len n _ t c h; simp; omega
    · cases h
theorem fin_wid (n low : Nat) (hn : 1 ≤ n) (k : Nat) (o : Option Nat) (h : ∀ c, o = some c → n ≤ k) (hk : 1 ≤ k) : 1 ≤ (fin n low o).2 ∧ (fin n low o).2 ≤ k := by
  cases o with
  | none => simp [fin]; exact hk
  | some c => have := h c rfl; simp only [fin]; split <;> simp <;> omega
theorem raL_wid (l : List UInt8) (h : l ≠ []) : 1 ≤ (raL l).2 ∧ (raL l).2 ≤ l.length := by
  match l, h with
  | b :: t, _ =>
    simp only [raL]
    split
    · simp
    split
    · exact fin_wid _ _ (by decide) _ _ (fun c hc => by have := goC_len _ _ _ _ hc; simp; omega) (by simp)
    split
    · exact fin_wid _ _ (by decide) _ _ (fun c hc => by have := goC_len _ _ _ _ hc; simp; omega) (by simp)
    split
    · exact fin_wid _ _ (by decide) _ _ (fun c hc => by have := goC_len _ _ _ _ hc; simp; omega) (by simp)
    · simp
theorem fin_range (n low : Nat) (o : Option Nat) : -2 ≤ (fin n low o).1 ∧ (fin n low o).1 ≤ 1114111 := by
  cases o with
  | none => simp [fin]
  | some c => simp only [fin]; split <;> simp <;> omega
theorem raL_range (l : List UInt8) : -2 ≤ (raL l).1 ∧ (raL l).1 ≤ 1114111 := by
  cases l with
  | nil => simp [raL]
  | cons b t =>
    simp only [raL]
    split
    · simp; omega
    split
    · exact fin_range _ _ _
    split
    · exact fin_range _ _ _
    split
    · exact fin_range _ _ _
    · simp

/-- A text as its code points, each with its width. -/
def itsN : Nat → List UInt8 → List (Int × Nat)
  | 0, _ => []
  | _ + 1, [] => []
  | n + 1, b :: t => raL (b :: t) :: itsN n ((b :: t).drop (raL (b :: t)).2)
def its (l : List UInt8) : List (Int × Nat) := itsN l.length l
theorem itsN_fuel : ∀ (n m : Nat) (l : List UInt8), l.length ≤ n → l.length ≤ m → itsN n l = itsN m l
  | 0, m, l, h, _ => by
    have : l = [] := List.eq_nil_of_length_eq_zero (by omega)
    subst this
    cases m <;> rfl
  | n + 1, 0, l, _, h => by
    have : l = [] := List.eq_nil_of_length_eq_zero (by omega)
    subst this
    rfl
  | n + 1, m + 1, [], _, _ => rfl
  | n + 1, m + 1, b :: t, h, h' => by
    have hw := raL_wid (b :: t) (by simp)
    simp only [itsN]
    rw [itsN_fuel n m _ (by simp at *; omega) (by simp at *; omega)]
theorem its_nil : its [] = [] := rfl
theorem its_cons (l : List UInt8) (h : l ≠ []) : its l = raL l :: its (l.drop (raL l).2) := by
  match l, h with
  | b :: t, h =>
    have hw := raL_wid (b :: t) h
    show itsN (t.length + 1) (b :: t) = _
    simp only [itsN, its]
    rw [itsN_fuel t.length _ _ (by simp at *; omega) (Nat.le_refl _)]
def wsum (l : List (Int × Nat)) : Nat := (l.map (·.2)).sum
theorem wsum_its : ∀ (n : Nat) (l : List UInt8), l.length ≤ n → wsum (its l) = l.length
  | 0, l, h => by
    have : l = [] := List.eq_nil_of_length_eq_zero (by omega)
    subst this; rfl
  | n + 1, l, h => by
    by_cases hl : l = []
    · subst hl; rfl
    · have hw := raL_wid l hl
      rw [its_cons l hl]
      have := wsum_its n (l.drop (raL l).2) (by simp; omega)
      simp only [wsum, List.map_cons, List.sum_cons] at *
      rw [this]; simp; omega
/-- The code point that is k further. -/
def pk (l : List (Int × Nat)) (k : Nat) : Int := ((l[k]?).map (·.1)).getD (-1)

end Go.Proofs.YtkaejhdncohgpaaGreatFmt

/- Plain functions: what the reference's lexer takes of a list of code points. No program stands in this file, and no condition. -/
namespace Go.Proofs.YtkaejhdncohgpaaGreatFmt
set_option linter.all false

/-! ### What the reference's lexer takes, as lists -/
abbrev Its := List (Int × Nat)
def newlM (l : Its) : Its := if pk l 0 = 13 ∧ pk l.tail 0 = 10 then l.tail.tail else l.tail
def spM (l : Its) : Its := l.dropWhile fun x => isSp x.1
def digM (l : Its) : Its := l.dropWhile fun x => isDig x.1
def hexM : Nat → Int → Its → Int × Its
  | 0, v, l => (v, l)
  | n + 1, v, l => if 0 ≤ hexv (pk l 0) then hexM n (v * 16 + hexv (pk l 0)) l.tail else (v, l)
def fixM (v : Int) : Int := if v = 0 ∨ v > 1114111 ∨ 55296 ≤ v ∧ v < 57344 then 65533 else v
/-- What stands behind a backslash: the code point that it means, what is left, whether it is left open. -/
def escM (l : Its) : Int × Its × Bool :=
  if hexv (pk l 0) < 0 then (if pk l 0 = -1 then (65533, l.tail, true) else (pk l 0, l.tail, false))
  else
    let r := hexM 6 0 l
    if isNl (pk r.2 0) then (fixM r.1, newlM r.2, true) else if isSp (pk r.2 0) then (fixM r.1, r.2.tail, false) else (fixM r.1, r.2, false)
def nameM : Nat → Its → List UInt8 → Bool → List UInt8 × Its × Bool
  | 0, l, out, op => (out, l, op)
  | n + 1, l, out, op =>
    if conts (pk l 0) then nameM n l.tail (out ++ encd (pk l 0)) op
    else if escs (pk l 0) (pk l 1) then nameM n (escM l.tail).2.1 (out ++ encd (escM l.tail).1) (op || (escM l.tail).2.2)
    else (out, l, op)

theorem tail_le (l : Its) : l.tail.length ≤ l.length := by cases l <;> simp
theorem tail_lt (l : Its) (h : pk l 0 ≠ -1) : l.tail.length < l.length := by cases l <;> simp_all [pk]
theorem newlM_le (l : Its) : (newlM l).length ≤ l.length := by
  unfold newlM; split
  · have := tail_le l.tail; have := tail_le l; omega
  · exact tail_le l
theorem hexM_le : ∀ (n : Nat) (v : Int) (l : Its), (hexM n v l).2.length ≤ l.length
  | 0, _, _ => Nat.le_refl _
  | n + 1, v, l => by
    simp only [hexM]; split
    · exact Nat.le_trans (hexM_le n _ _) (tail_le l)
    · exact Nat.le_refl _
theorem escM_le (l : Its) : (escM l).2.1.length ≤ l.length := by
  unfold escM
  split
  · split <;> exact tail_le l
  · have := hexM_le 6 0 l
    dsimp only
    split
    · exact Nat.le_trans (newlM_le _) this
    split
    · exact Nat.le_trans (tail_le _) this
    · exact this
theorem fixM_range (v : Int) (h : 0 ≤ v) : 0 ≤ fixM v ∧ fixM v ≤ 1114111 := by unfold fixM; split <;> omega
theorem hexv_range (c : Int) : -1 ≤ hexv c ∧ hexv c ≤ 15 := by
  unfold hexv; split
  · rename_i h; simp [isDig] at h; omega
  split
  · omega
  split <;> omega
theorem hexM_nn : ∀ (n : Nat) (v : Int) (l : Its), 0 ≤ v → 0 ≤ (hexM n v l).1
  | 0, _, _, h => h
  | n + 1, v, l, h => by
    simp only [hexM]; split
    · exact hexM_nn n _ _ (by omega)
    · exact h

theorem spM_yes (l : Its) (h : isSp (pk l 0) = true) : spM l = spM l.tail ∧ l.tail.length < l.length := by
  cases l with
  | nil => simp [pk, isSp, isNl] at h
  | cons a t => simp only [pk, List.getElem?_cons_zero, Option.map_some, Option.getD_some] at h; simp [spM, h]
theorem spM_no (l : Its) (h : isSp (pk l 0) = false) : spM l = l := by
  cases l with
  | nil => rfl
  | cons a t => simp only [pk, List.getElem?_cons_zero, Option.map_some, Option.getD_some] at h; simp [spM, h]
theorem digM_yes (l : Its) (h : isDig (pk l 0) = true) : digM l = digM l.tail ∧ l.tail.length < l.length := by
  cases l with
  | nil => simp [pk, isDig] at h
  | cons a t => simp only [pk, List.getElem?_cons_zero, Option.map_some, Option.getD_some] at h; simp [digM, h]
theorem digM_no (l : Its) (h : isDig (pk l 0) = false) : digM l = l := by
  cases l with
  | nil => rfl
  | cons a t => simp only [pk, List.getElem?_cons_zero, Option.map_some, Option.getD_some] at h; simp [digM, h]

end Go.Proofs.YtkaejhdncohgpaaGreatFmt

/- Plain functions: what the reference's lexer takes of a list of code points: texts in quotes, numbers. No program stands in this file, and no condition. -/
namespace Go.Proofs.YtkaejhdncohgpaaGreatFmt
set_option linter.all false

def quotM : Nat → Int → Its → List UInt8 → Bool → Int × List UInt8 × Its × Bool
  | 0, _, l, _, op => (0, [], l, op)
  | n + 1, qt, l, out, op =>
    if pk l 0 = qt then (36, out, l.tail, op)
    else if pk l 0 = -1 then (36, out, l, true)
    else if isNl (pk l 0) then (2, [], l, op)
    else if pk l 0 = 92 then
      if pk l 1 = -1 then quotM n qt l.tail out op
      else if isNl (pk l 1) then quotM n qt (newlM l.tail) out op
      else quotM n qt (escM l.tail).2.1 (out ++ encd (escM l.tail).1) (op || (escM l.tail).2.2)
    else quotM n qt l.tail (out ++ encd (pk l 0)) op

end Go.Proofs.YtkaejhdncohgpaaGreatFmt

/- Plain functions: what the reference's lexer takes of a list of code points: numbers, names. No program stands in this file, and no condition. -/
namespace Go.Proofs.YtkaejhdncohgpaaGreatFmt
set_option linter.all false

def signM (l : Its) : Its := if pk l 0 = 43 ∨ pk l 0 = 45 then l.tail else l
def fracM (l : Its) (op : Bool) : Its × Bool := if pk l 0 = 46 ∧ isDig (pk l 1) = true then (digM l.tail, op) else (l, op || decide (pk l 0 = 46))
def isExp (l : Its) : Bool := decide (pk l 0 = 101 ∨ pk l 0 = 69) && (isDig (pk l 1) || (decide (pk l 1 = 43 ∨ pk l 1 = 45) && isDig (pk l 2)))
def expM (l : Its) : Its := if isExp l then digM l.tail.tail else l
def numM (K : Nat) (l : Its) (op : Bool) : Int × Nat × Its × Bool :=
  let r := fracM (digM (signM l)) op
  let l4 := expM r.1
  if idents (pk l4 0) (pk l4 1) (pk l4 2) then (26, wsum l - wsum l4, (nameM K l4 [] r.2).2.1, (nameM K l4 [] r.2).2.2)
  else if pk l4 0 = 37 then (34, 0, l4.tail, r.2) else (30, 0, l4, r.2)
theorem digM_le (l : Its) : (digM l).length ≤ l.length := by
  unfold digM
  exact (List.dropWhile_sublist (fun x : Int × Nat => isDig x.1)).length_le
theorem spM_le (l : Its) : (spM l).length ≤ l.length := by
  unfold spM
  exact (List.dropWhile_sublist (fun x : Int × Nat => isSp x.1)).length_le
theorem signM_le (l : Its) : (signM l).length ≤ l.length := by unfold signM; split; exact tail_le l; exact Nat.le_refl _
theorem fracM_le (l : Its) (op : Bool) : (fracM l op).1.length ≤ l.length := by
  unfold fracM; split
  · exact Nat.le_trans (digM_le _) (tail_le _)
  · exact Nat.le_refl _
theorem expM_le (l : Its) : (expM l).length ≤ l.length := by
  unfold expM; split
  · exact Nat.le_trans (digM_le _) (Nat.le_trans (tail_le _) (tail_le _))
  · exact Nat.le_refl _

theorem wsum_tail (l : Its) : wsum l.tail ≤ wsum l := by cases l <;> simp [wsum]
theorem wsum_dw (f : Int × Nat → Bool) : ∀ l : Its, wsum (l.dropWhile f) ≤ wsum l
  | [] => by simp
  | a :: t => by
    rw [List.dropWhile_cons]
    split
    · exact Nat.le_trans (wsum_dw f t) (wsum_tail (a :: t))
    · exact Nat.le_refl _
theorem wsum_digM (l : Its) : wsum (digM l) ≤ wsum l := wsum_dw _ l
theorem wsum_spM (l : Its) : wsum (spM l) ≤ wsum l := wsum_dw _ l
theorem wsum_signM (l : Its) : wsum (signM l) ≤ wsum l := by unfold signM; split; exact wsum_tail l; exact Nat.le_refl _
theorem wsum_fracM (l : Its) (op : Bool) : wsum (fracM l op).1 ≤ wsum l := by
  unfold fracM; split
  · exact Nat.le_trans (wsum_digM _) (wsum_tail _)
  · exact Nat.le_refl _
theorem wsum_expM (l : Its) : wsum (expM l) ≤ wsum l := by
  unfold expM; split
  · exact Nat.le_trans (wsum_digM _) (Nat.le_trans (wsum_tail _) (wsum_tail _))
  · exact Nat.le_refl _
theorem wsum_num (l : Its) (op : Bool) : wsum (expM (fracM (digM (signM l)) op).1) ≤ wsum l :=
  Nat.le_trans (wsum_expM _) (Nat.le_trans (wsum_fracM _ _) (Nat.le_trans (wsum_digM _) (wsum_signM l)))

end Go.Proofs.YtkaejhdncohgpaaGreatFmt

/- Plain words: the tokens of a text, as the reference's lexer reads them (no comment, no address). No program stands in this file, and no condition. -/
namespace Go.Proofs.YtkaejhdncohgpaaGreatFmt
set_option linter.all false

/-- The name url, in letters of any size. -/
def isUrlB (l : List UInt8) : Bool :=
  match l with
  | [a, b, c] => decide ((a.toNat = 117 ∨ a.toNat = 85) ∧ (b.toNat = 114 ∨ b.toNat = 82) ∧ (c.toNat = 108 ∨ c.toNat = 76))
  | _ => false

/-- The token that stands ahead: its kind, unit, mark, text; what is left, and whether it is left open. -/
inductive NextR (K : Nat) : Its → Bool → Int → Nat → Bool → List UInt8 → Its → Bool → Prop
  | space (l : Its) (o : Bool) (h : isSp (pk l 0) = true) : NextR K l o 38 0 false [] (spM l) o
  | quoted (l : Its) (o : Bool) (h : pk l 0 = 34 ∨ pk l 0 = 39) (k : Int) (tx : List UInt8) (l' : Its) (o' : Bool) (hk : k ≠ 0) (hq : quotM K (pk l 0) l.tail [] o = (k, tx, l', o')) : NextR K l o k 0 false tx l' o'
  | hash (l : Its) (o : Bool) (h : pk l 0 = 35) (hd : conts (pk l 1) = true ∨ conts (pk l 1) = false ∧ escs (pk l 1) (pk l 2) = true) (tx : List UInt8) (l' : Its) (o' : Bool) (hn : nameM K l.tail [] o = (tx, l', o')) : NextR K l o 28 0 (idents (pk l 1) (pk l 2) (pk l 3)) tx l' o'
  | num (l : Its) (o : Bool) (h1 : pk l 0 ≠ -1) (hsp : isSp (pk l 0) = false) (h2 : pk l 0 ≠ 34) (h3 : pk l 0 ≠ 39) (h4 : pk l 0 ≠ 35) (hc : cnts (pk l 0) (pk l 1) (pk l 2) = true) (k : Int) (u : Nat) (l' : Its) (o' : Bool) (hk : k ≠ 0) (hq : numM K l o = (k, u, l', o')) : NextR K l o k u false [] l' o'
  | ident (l : Its) (o : Bool) (h1 : pk l 0 ≠ -1) (hsp : isSp (pk l 0) = false) (h2 : pk l 0 ≠ 34) (h3 : pk l 0 ≠ 39) (h4 : pk l 0 ≠ 35) (hc : cnts (pk l 0) (pk l 1) (pk l 2) = false) (hcd : ¬ (pk l 0 = 45 ∧ pk l 1 = 45 ∧ pk l 2 = 62)) (hi : idents (pk l 0) (pk l 1) (pk l 2) = true) (tx : List UInt8) (l' : Its) (o' : Bool) (hn : nameM K l [] o = (tx, l', o')) (hp : pk l' 0 ≠ 40) : NextR K l o 29 0 false tx l' o'
  | func (l : Its) (o : Bool) (h1 : pk l 0 ≠ -1) (hsp : isSp (pk l 0) = false) (h2 : pk l 0 ≠ 34) (h3 : pk l 0 ≠ 39) (h4 : pk l 0 ≠ 35) (hc : cnts (pk l 0) (pk l 1) (pk l 2) = false) (hcd : ¬ (pk l 0 = 45 ∧ pk l 1 = 45 ∧ pk l 2 = 62)) (hi : idents (pk l 0) (pk l 1) (pk l 2) = true) (tx : List UInt8) (l' : Its) (o' : Bool) (hn : nameM K l [] o = (tx, l', o')) (hp : pk l' 0 = 40) (hu : isUrlB tx = false) : NextR K l o 27 0 false tx l'.tail o'
  | atk (l : Its) (o : Bool) (h : pk l 0 = 64) (hi : idents (pk l 1) (pk l 2) (pk l 3) = true) (tx : List UInt8) (l' : Its) (o' : Bool) (hn : nameM K l.tail [] o = (tx, l', o')) : NextR K l o 1 0 false tx l' o'
  | c41 (l : Its) (o : Bool) (h : pk l 0 = 41) : NextR K l o 8 0 false [] l.tail o
  | c58 (l : Its) (o : Bool) (h : pk l 0 = 58) : NextR K l o 9 0 false [] l.tail o
  | c59 (l : Its) (o : Bool) (h : pk l 0 = 59) : NextR K l o 35 0 false [] l.tail o

/-- A token of a text. -/
structure Tk where
  k : Int
  st : Nat
  en : Nat
  un : Nat
  id : Bool
  tx : List UInt8

/-- The tokens of what is left of a text of n bytes. -/
inductive TokR (K n : Nat) : Its → Bool → List Tk → Bool → Prop
  | nil (l : Its) (o : Bool) (h : pk l 0 = -1) : TokR K n l o [] o
  | cons (l : Its) (o : Bool) (k : Int) (u : Nat) (id : Bool) (tx : List UInt8) (l' : Its) (o' : Bool) (ts : List Tk) (o2 : Bool) (hc : ¬ (pk l 0 = 47 ∧ pk l 1 = 42)) (h : NextR K l o k u id tx l' o') (ht : TokR K n l' o' ts o2) :
      TokR K n l o (⟨k, n - wsum l, n - wsum l', u, id, tx⟩ :: ts) o2

theorem nameM_le : ∀ (n : Nat) (l : Its) (out : List UInt8) (op : Bool), (nameM n l out op).2.1.length ≤ l.length
  | 0, _, _, _ => Nat.le_refl _
  | n + 1, l, out, op => by
    simp only [nameM]
    split
    · exact Nat.le_trans (nameM_le n _ _ _) (tail_le l)
    split
    · exact Nat.le_trans (nameM_le n _ _ _) (Nat.le_trans (escM_le _) (tail_le l))
    · exact Nat.le_refl _
theorem quotM_le : ∀ (n : Nat) (q : Int) (l : Its) (out : List UInt8) (op : Bool), (quotM n q l out op).2.2.1.length ≤ l.length
  | 0, _, _, _, _ => Nat.le_refl _
  | n + 1, q, l, out, op => by
    simp only [quotM]
    split
    · exact tail_le l
    split
    · exact Nat.le_refl _
    split
    · exact Nat.le_refl _
    split
    · split
      · exact Nat.le_trans (quotM_le n _ _ _ _) (tail_le l)
      split
      · exact Nat.le_trans (quotM_le n _ _ _ _) (Nat.le_trans (newlM_le _) (tail_le l))
      · exact Nat.le_trans (quotM_le n _ _ _ _) (Nat.le_trans (escM_le _) (tail_le l))
    · exact Nat.le_trans (quotM_le n _ _ _ _) (tail_le l)
theorem pk_nil (k : Nat) : pk [] k = -1 := by simp [pk]
theorem digM_lt (l : Its) (h : isDig (pk l 0) = true) : (digM l).length < l.length := by
  have := digM_yes l h
  rw [this.1]
  exact Nat.lt_of_le_of_lt (digM_le _) this.2
theorem numM_lt (K : Nat) (l : Its) (op : Bool) (h : cnts (pk l 0) (pk l 1) (pk l 2) = true) : (numM K l op).2.2.1.length < l.length := by
  have key : (expM (fracM (digM (signM l)) op).1).length < l.length := by
    refine Nat.lt_of_le_of_lt (expM_le _) ?_
    unfold cnts at h
    by_cases hs : pk l 0 = 43 ∨ pk l 0 = 45
    · have hne : pk l 0 ≠ -1 := by omega
      have e : signM l = l.tail := by simp [signM, hs]
      rw [e]
      exact Nat.lt_of_le_of_lt (Nat.le_trans (fracM_le _ _) (digM_le _)) (tail_lt l hne)
    · have e : signM l = l := by simp [signM, hs]
      rw [e]
      rw [if_neg hs] at h
      by_cases hd : isDig (pk l 0) = true
      · exact Nat.lt_of_le_of_lt (fracM_le _ _) (digM_lt l hd)
      · simp only [Bool.not_eq_true] at hd
        rw [hd] at h
        simp at h
        have e2 : digM l = l := digM_no l hd
        rw [e2]
        simp only [fracM]
        rw [if_pos h]
        have hne : pk l 0 ≠ -1 := by omega
        exact Nat.lt_of_le_of_lt (digM_le _) (tail_lt l hne)
  unfold numM
  dsimp only
  split
  · exact Nat.lt_of_le_of_lt (nameM_le _ _ _ _) key
  split
  · exact Nat.lt_of_le_of_lt (tail_le _) key
  · exact key
theorem nameM_lt (K : Nat) (l : Its) (out : List UInt8) (op : Bool) (hK : 0 < K) (h : conts (pk l 0) = true ∨ escs (pk l 0) (pk l 1) = true) : (nameM K l out op).2.1.length < l.length := by
  obtain ⟨n, rfl⟩ : ∃ n, K = n + 1 := ⟨K - 1, by omega⟩
  have hne : pk l 0 ≠ -1 := by
    intro e
    rcases h with h | h
    · rw [e] at h; simp [conts, starts, isDig] at h
    · rw [e] at h; simp [escs] at h
  simp only [nameM]
  split
  · exact Nat.lt_of_le_of_lt (nameM_le _ _ _ _) (tail_lt l hne)
  split
  · exact Nat.lt_of_le_of_lt (Nat.le_trans (nameM_le _ _ _ _) (escM_le _)) (tail_lt l hne)
  · rename_i h1 h2; rcases h with h | h <;> contradiction
theorem idents_first (l : Its) (h : idents (pk l 0) (pk l 1) (pk l 2) = true) : conts (pk l 0) = true ∨ escs (pk l 0) (pk l 1) = true := by
  unfold idents at h
  split at h
  · rename_i e; left; simp [conts, e]
  · simp only [Bool.or_eq_true] at h
    rcases h with h | h
    · left; simp [conts, h]
    · exact .inr h
theorem NextR_lt {K : Nat} (hK : 0 < K) {l l' : Its} {o o' : Bool} {k : Int} {u : Nat} {id : Bool} {tx : List UInt8} (h : NextR K l o k u id tx l' o') : l'.length < l.length ∧ k ≠ 0 := by
  cases h with
  | space h1 =>
    refine ⟨?_, by decide⟩
    have := spM_yes l h1
    rw [this.1]
    exact Nat.lt_of_le_of_lt (spM_le _) this.2
  | quoted h1 hk hq =>
    refine ⟨?_, ‹k ≠ 0›⟩
    have e := quotM_le K (pk l 0) l.tail [] o
    rw [‹quotM K _ _ _ _ = _›] at e
    exact Nat.lt_of_le_of_lt e (tail_lt l (by have : pk l 0 = 34 ∨ pk l 0 = 39 := by assumption
                                              omega))
  | hash =>
    refine ⟨?_, by decide⟩
    have e := nameM_le K l.tail [] o
    rw [‹nameM K _ _ _ = _›] at e
    exact Nat.lt_of_le_of_lt e (tail_lt l (by have : pk l 0 = 35 := by assumption
                                              omega))
  | num =>
    refine ⟨?_, ‹k ≠ 0›⟩
    have e := numM_lt K l o ‹_›
    rw [‹numM K _ _ = _›] at e
    exact e
  | ident =>
    refine ⟨?_, by decide⟩
    have e := nameM_lt K l [] o hK (idents_first l ‹_›)
    rw [‹nameM K _ _ _ = _›] at e
    exact e
  | func =>
    refine ⟨?_, by decide⟩
    have e := nameM_lt K l [] o hK (idents_first l ‹_›)
    rw [‹nameM K _ _ _ = _›] at e
    exact Nat.lt_of_le_of_lt (tail_le _) e
  | atk =>
    refine ⟨?_, by decide⟩
    have e := nameM_le K l.tail [] o
    rw [‹nameM K _ _ _ = _›] at e
    exact Nat.lt_of_le_of_lt e (tail_lt l (by have : pk l 0 = 64 := by assumption
                                              omega))
  | c41 => exact ⟨tail_lt l (by have : pk l 0 = 41 := by assumption
                                omega), by decide⟩
  | c58 => exact ⟨tail_lt l (by have : pk l 0 = 58 := by assumption
                                omega), by decide⟩
  | c59 => exact ⟨tail_lt l (by have : pk l 0 = 59 := by assumption
                                omega), by decide⟩
theorem TokR_len {K n : Nat} (hK : 0 < K) {l : Its} {o o2 : Bool} {ts : List Tk} (h : TokR K n l o ts o2) : ts.length ≤ l.length := by
  induction h with
  | nil => simp
  | cons l o k u id tx l' o' ts o2 hc h ht ih => have := (NextR_lt hK h).1; simp; omega

end Go.Proofs.YtkaejhdncohgpaaGreatFmt

/- Plain words: texts as code points, and their bytes. No program stands in this file, and no condition. -/
namespace Go.Proofs.YtkaejhdncohgpaaGreatFmt
set_option linter.all false

/-- A code point that UTF-8 has bytes for. -/
def Scal (c : Int) : Prop := 0 ≤ c ∧ c < 55296 ∨ 57344 ≤ c ∧ c ≤ 1114111
def encs (cs : List Int) : List UInt8 := cs.flatMap encd
theorem encs_nil : encs [] = [] := rfl
theorem encs_cons (c : Int) (cs : List Int) : encs (c :: cs) = encd c ++ encs cs := by simp [encs]
theorem encs_app (a b : List Int) : encs (a ++ b) = encs a ++ encs b := by simp [encs]

theorem encd1 {c : Int} (h : c < 128) : encd c = [UInt8.ofNat (c % 256).toNat] := by simp [encd, h]
theorem encd2 {c : Int} (h0 : 128 ≤ c) (h : c < 2048) : encd c = [UInt8.ofNat (192 + c.toNat / 64), UInt8.ofNat (128 + c.toNat % 64)] := by
  have : ¬ c < 128 := by omega
  simp [encd, h, this]
theorem encd3 {c : Int} (h0 : 2048 ≤ c) (h : c < 65536) : encd c = [UInt8.ofNat (224 + c.toNat / 4096), UInt8.ofNat (128 + c.toNat / 64 % 64), UInt8.ofNat (128 + c.toNat % 64)] := by
  have a : ¬ c < 128 := by omega
  have b : ¬ c < 2048 := by omega
  simp [encd, h, a, b]
theorem encd4 {c : Int} (h0 : 65536 ≤ c) : encd c = [UInt8.ofNat (240 + c.toNat / 262144), UInt8.ofNat (128 + c.toNat / 4096 % 64), UInt8.ofNat (128 + c.toNat / 64 % 64), UInt8.ofNat (128 + c.toNat % 64)] := by
  have a : ¬ c < 128 := by omega
  have b : ¬ c < 2048 := by omega
  have d : ¬ c < 65536 := by omega
  simp [encd, a, b, d]
theorem encd_len (c : Int) : 1 ≤ (encd c).length ∧ (encd c).length ≤ 4 := by
  unfold encd
  repeat' split
  all_goals simp
theorem encd_ne (c : Int) : encd c ≠ [] := fun e => by have := (encd_len c).1; rw [e] at this; simp at this

theorem ofNat_lt {n : Nat} (h : n < 256) : (UInt8.ofNat n).toNat = n := by simp; omega
theorem raL_encd (c : Int) (h : Scal c) (r : List UInt8) : raL (encd c ++ r) = (c, (encd c).length) := by
  unfold Scal at h
  by_cases h1 : c < 128
  · rw [encd1 h1]
    simp only [List.cons_append, List.nil_append, raL]
    rw [ofNat_lt (by omega), if_pos (by omega)]
    simp; omega
  by_cases h2 : c < 2048
  · rw [encd2 (by omega) h2]
    simp only [List.cons_append, List.nil_append, raL, goC]
    rw [ofNat_lt (by omega), ofNat_lt (by omega), if_neg (by omega), if_pos (by omega), if_pos (by omega)]
    simp only [fin]
    rw [if_neg (by omega)]
    simp; omega
  by_cases h3 : c < 65536
  · rw [encd3 (by omega) h3]
    simp only [List.cons_append, List.nil_append, raL, goC]
    rw [ofNat_lt (by omega), ofNat_lt (by omega), ofNat_lt (by omega), if_neg (by omega), if_neg (by omega), if_pos (by omega), if_pos (by omega), if_pos (by omega)]
    simp only [fin]
    rw [if_neg (by omega)]
    simp; omega
  · rw [encd4 (by omega)]
    simp only [List.cons_append, List.nil_append, raL, goC]
    rw [ofNat_lt (by omega), ofNat_lt (by omega), ofNat_lt (by omega), ofNat_lt (by omega), if_neg (by omega), if_neg (by omega), if_neg (by omega), if_pos (by omega), if_pos (by omega), if_pos (by omega), if_pos (by omega)]
    simp only [fin]
    rw [if_neg (by omega)]
    simp; omega

/-- Bytes that begin with a code point begin with its bytes. -/
theorem u8_eq (b : UInt8) (n : Nat) (h : b.toNat = n) : b = UInt8.ofNat n := by subst h; simp
theorem raL_back (l : List UInt8) (c : Int) (n : Nat) (h : raL l = (c, n)) (hc : 0 ≤ c) : Scal c ∧ ∃ r, l = encd c ++ r ∧ n = (encd c).length := by
  match l with
  | [] => simp [raL] at h; omega
  | b :: t =>
    have hb := b.toNat_lt
    simp only [raL] at h
    split at h
    · simp only [Prod.mk.injEq] at h
      obtain ⟨rfl, rfl⟩ := h
      have e : encd ((b.toNat : Nat) : Int) = [b] := by rw [encd1 (by omega)]; congr 1; exact (u8_eq b _ (by omega)).symm
      exact ⟨.inl ⟨by omega, by omega⟩, t, by rw [e]; rfl, by rw [e]; rfl⟩
    split at h
    · match t with
      | [] => simp [goC, fin] at h; omega
      | b1 :: t =>
        have hb1 := b1.toNat_lt
        simp only [goC] at h
        split at h
        · simp only [fin] at h
          split at h
          · simp at h; omega
          · simp only [Prod.mk.injEq] at h
            obtain ⟨rfl, rfl⟩ := h
            have e : encd ((b.toNat % 32 * 64 + b1.toNat % 64 : Nat) : Int) = [b, b1] := by
              rw [encd2 (by omega) (by omega)]; congr 1
              · exact (u8_eq b _ (by omega)).symm
              congr 1; exact (u8_eq b1 _ (by omega)).symm
            exact ⟨by unfold Scal; omega, t, by rw [e]; rfl, by rw [e]; rfl⟩
        · simp [fin] at h; omega
    split at h
    · match t with
      | [] => simp [goC, fin] at h; omega
      | [b1] =>
        simp only [goC] at h
        split at h <;> simp [fin] at h <;> omega
      | b1 :: b2 :: t =>
        have hb1 := b1.toNat_lt
        have hb2 := b2.toNat_lt
        simp only [goC] at h
        split at h
        · split at h
          · simp only [fin] at h
            split at h
            · simp at h; omega
            · simp only [Prod.mk.injEq] at h
              obtain ⟨rfl, rfl⟩ := h
              have e : encd (((b.toNat % 16 * 64 + b1.toNat % 64) * 64 + b2.toNat % 64 : Nat) : Int) = [b, b1, b2] := by
                rw [encd3 (by omega) (by omega)]; congr 1
                · exact (u8_eq b _ (by omega)).symm
                congr 1
                · exact (u8_eq b1 _ (by omega)).symm
                congr 1; exact (u8_eq b2 _ (by omega)).symm
              exact ⟨by unfold Scal; omega, t, by rw [e]; rfl, by rw [e]; rfl⟩
          · simp [fin] at h; omega
        · simp [fin] at h; omega
    split at h
    · match t with
      | [] => simp [goC, fin] at h; omega
      | [b1] =>
        simp only [goC] at h
        split at h <;> simp [fin] at h <;> omega
      | [b1, b2] =>
        simp only [goC] at h
        split at h
        · split at h <;> simp [fin] at h <;> omega
        · simp [fin] at h; omega
      | b1 :: b2 :: b3 :: t =>
        have hb1 := b1.toNat_lt
        have hb2 := b2.toNat_lt
        have hb3 := b3.toNat_lt
        simp only [goC] at h
        split at h
        · split at h
          · split at h
            · simp only [fin] at h
              split at h
              · simp at h; omega
              · simp only [Prod.mk.injEq] at h
                obtain ⟨rfl, rfl⟩ := h
                have e : encd ((((b.toNat % 8 * 64 + b1.toNat % 64) * 64 + b2.toNat % 64) * 64 + b3.toNat % 64 : Nat) : Int) = [b, b1, b2, b3] := by
                  rw [encd4 (by omega)]; congr 1
                  · exact (u8_eq b _ (by omega)).symm
                  congr 1
                  · exact (u8_eq b1 _ (by omega)).symm
                  congr 1
                  · exact (u8_eq b2 _ (by omega)).symm
                  congr 1; exact (u8_eq b3 _ (by omega)).symm
                exact ⟨by unfold Scal; omega, t, by rw [e]; rfl, by rw [e]; rfl⟩
            · simp [fin] at h; omega
          · simp [fin] at h; omega
        · simp [fin] at h; omega
    · simp at h; omega

theorem its_encs : ∀ (cs : List Int), (∀ c ∈ cs, Scal c) → its (encs cs) = cs.map fun c => (c, (encd c).length)
  | [], _ => rfl
  | c :: cs, h => by
    have hc := h c (by simp)
    rw [encs_cons, its_cons _ (by simp [encd_ne]), raL_encd c hc, List.drop_left, its_encs cs fun d hd => h d (by simp [hd])]
    rfl

/-- The model's own decoding. -/
theorem get_of_drop (s : ByteArray) (pos k : Nat) (r : List UInt8) (h : s.data.toList.drop pos = r) (b : UInt8) (hb : r[k]? = some b) : (s.get! (pos + k)).toNat = b.toNat ∧ pos + k < s.size := by
  subst h
  rw [List.getElem?_drop] at hb
  have hlt : pos + k < s.data.toList.length := (List.getElem?_eq_some_iff.1 hb).1
  have hlt' : pos + k < s.data.size := by simpa using hlt
  have h2 : s.data[pos + k]? = some b := by rw [← Array.getElem?_toList]; exact hb
  refine ⟨?_, hlt'⟩
  simp [ByteArray.get!, getElem!_def, h2]
theorem decode_encd (s : ByteArray) (pos : Nat) (c : Int) (hs : Scal c) (r : List UInt8) (h : s.data.toList.drop pos = encd c ++ r) : Utf8.decode s pos = (c.toNat, (encd c).length) := by
  unfold Scal at hs
  by_cases h1 : c < 128
  · rw [encd1 h1] at h ⊢
    obtain ⟨a0, _⟩ := get_of_drop s pos 0 _ h _ rfl
    rw [ofNat_lt (by omega)] at a0
    simp only [Utf8.decode, a0]
    rw [if_pos (by omega)]
    simp; omega
  by_cases h2 : c < 2048
  · rw [encd2 (by omega) h2] at h ⊢
    obtain ⟨a0, _⟩ := get_of_drop s pos 0 _ h _ rfl
    obtain ⟨a1, g1⟩ := get_of_drop s pos 1 _ h _ rfl
    rw [ofNat_lt (by omega)] at a0 a1
    simp only [Utf8.decode, a0, a1, g1, decide_true, Bool.true_and, Utf8.valid]
    rw [if_neg (by omega), if_pos (by simp; omega), if_pos (by omega)]
    simp; omega
  by_cases h3 : c < 65536
  · rw [encd3 (by omega) h3] at h ⊢
    obtain ⟨a0, _⟩ := get_of_drop s pos 0 _ h _ rfl
    obtain ⟨a1, g1⟩ := get_of_drop s pos 1 _ h _ rfl
    obtain ⟨a2, g2⟩ := get_of_drop s pos 2 _ h _ rfl
    rw [ofNat_lt (by omega)] at a0 a1 a2
    simp only [Utf8.decode, a0, a1, a2, g1, g2, decide_true, Bool.true_and, Utf8.valid]
    rw [if_neg (by omega), if_neg (by simp; omega), if_pos (by simp; omega), if_pos (by simp; omega)]
    simp; omega
  · rw [encd4 (by omega)] at h ⊢
    obtain ⟨a0, _⟩ := get_of_drop s pos 0 _ h _ rfl
    obtain ⟨a1, g1⟩ := get_of_drop s pos 1 _ h _ rfl
    obtain ⟨a2, g2⟩ := get_of_drop s pos 2 _ h _ rfl
    obtain ⟨a3, g3⟩ := get_of_drop s pos 3 _ h _ rfl
    rw [ofNat_lt (by omega)] at a0 a1 a2 a3
    simp only [Utf8.decode, a0, a1, a2, a3, g1, g2, g3, decide_true, Bool.true_and, Utf8.valid]
    rw [if_neg (by omega), if_neg (by simp; omega), if_neg (by simp; omega), if_pos (by simp; omega), if_pos (by simp; omega)]
    simp; omega

end Go.Proofs.YtkaejhdncohgpaaGreatFmt
