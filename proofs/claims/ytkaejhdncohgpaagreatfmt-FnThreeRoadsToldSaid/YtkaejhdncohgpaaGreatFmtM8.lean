/- Tokens as data, as memory, and as they are printed; Walk: functionMultiLineCommaPeriod at a function with nothing in it; Plain words: what tokens are printed as, and how long that may be; Walk: printTokens. -/
import Derived.Test.YtkaejhdncohgpaaGreatFmtCB
import Derived.Outline
import Derived.Deep.CutRange
import Derived.Deep.CutBlock
import Derived.Deep.RegionHeld3
/- Tokens as data, as memory, and as they are printed. -/
namespace Go.Proofs.YtkaejhdncohgpaaGreatFmt
set_option linter.all false
open Go.RowKit Go.Lib

/-- A token of package css_ast: its kind, text, whitespace (bits), unit's place; the tokens within it. -/
inductive TD where
  | mk (k : Int) (tx : List Int) (ws un : Int) (ch : Option (List TD)) : TD
namespace TD
def k : TD → Int | mk k _ _ _ _ => k
def tx : TD → List Int | mk _ t _ _ _ => t
def ws : TD → Int | mk _ _ w _ _ => w
def un : TD → Int | mk _ _ _ u _ => u
def ch : TD → Option (List TD) | mk _ _ _ _ c => c
end TD
def wsB (t : TD) : Bool := decide (t.ws % 2 = 1)
def wsA (t : TD) : Bool := decide (t.ws / 2 % 2 = 1)
def firstW : List TD → Bool | [] => false | t :: _ => wsB t
def nextW (t : TD) (r : List TD) : Bool := wsA t || firstW r
def closeT (k : Int) : List UInt8 := if k = 27 ∨ k = 33 then [41] else if k = 31 then [125] else if k = 32 then [93] else []

/-- The memory of tokens lies in the blocks D. -/
structure CellsAt (w : World) (b o : Nat) (pv : Value) (s : ByteArray) (lc pl un k ws : Int) : Prop where
  h0 : w.cell? ⟨b, o, none⟩ = some pv
  h1 : w.cell? ⟨b, o + 1, none⟩ = some (.string s)
  h2 : w.cell? ⟨b, o + 2, none⟩ = some (.int .i32 lc)
  h3 : w.cell? ⟨b, o + 3, none⟩ = some (.int .u32 pl)
  h4 : w.cell? ⟨b, o + 4, none⟩ = some (.int .u16 un)
  h5 : w.cell? ⟨b, o + 5, none⟩ = some (.int .u8 k)
  h6 : w.cell? ⟨b, o + 6, none⟩ = some (.int .u8 ws)
mutual
/-- A token in memory, in the blocks D. -/
inductive TokAt (w : World) (D : Nat → Prop) : Nat → Nat → TD → Prop
  | mk (b o : Nat) (k : Int) (tx : List Int) (ws un : Int) (ch : Option (List TD)) (s : ByteArray) (pv : Value) (lc pl : Int) (hb : D b) (hc : CellsAt w b o pv s lc pl un k ws) (hs : s.data.toList = encs tx)
      (hp : OptAt w D pv ch) : TokAt w D b o (.mk k tx ws un ch)
inductive OptAt (w : World) (D : Nat → Prop) : Value → Option (List TD) → Prop
  | none : OptAt w D (.pointer none) none
  | some (p : Nat) (sl : Value) (l : List TD) (hp : D p) (h : w.cell? ⟨p, 0, none⟩ = some sl) (hr : RowAt w D sl l) : OptAt w D (.pointer (some ⟨p, 0, none⟩)) (some l)
inductive RowAt (w : World) (D : Nat → Prop) : Value → List TD → Prop
  | nil : RowAt w D (.slice none 0 0) []
  | row (b cap : Nat) (l : List TD) (h : ∀ i t, l[i]? = some t → TokAt w D b (i * 7) t) : RowAt w D (.slice (some ⟨b, 0, none⟩) l.length cap) l
end
theorem cell_kp {S D : Nat → Prop} {w w' : World} (hk : Kp S w w') (hG : ∀ k, D k → k < w.heap.size) (hS : ∀ k, S k → ¬ D k) {b o : Nat} (hb : D b) {v : Value} (h : w.cell? ⟨b, o, none⟩ = some v) : w'.cell? ⟨b, o, none⟩ = some v := by
  rw [World.cell?_of_block (w := w) (hk.block b (hG b hb) (fun s => hS b s hb))]; exact h
section
variable {S D : Nat → Prop} {w w' : World} (hk : Kp S w w') (hG : ∀ k, D k → k < w.heap.size) (hS : ∀ k, S k → ¬ D k)
include hk hG hS
theorem CellsAt.kp {b o : Nat} {pv : Value} {s : ByteArray} {lc pl un k ws : Int} (hb : D b) (h : CellsAt w b o pv s lc pl un k ws) : CellsAt w' b o pv s lc pl un k ws :=
  ⟨cell_kp hk hG hS hb h.h0, cell_kp hk hG hS hb h.h1, cell_kp hk hG hS hb h.h2, cell_kp hk hG hS hb h.h3, cell_kp hk hG hS hb h.h4, cell_kp hk hG hS hb h.h5, cell_kp hk hG hS hb h.h6⟩
mutual
theorem TokAt.kp {b o : Nat} {t : TD} (h : TokAt w D b o t) : TokAt w' D b o t := by
  match h with
  | .mk _ _ k tx ws un ch s pv lc pl hb hc hs hp => exact .mk _ _ k tx ws un ch s pv lc pl hb (hc.kp hk hG hS hb) hs (OptAt.kp hp)
theorem OptAt.kp {v : Value} {c : Option (List TD)} (h : OptAt w D v c) : OptAt w' D v c := by
  match h with
  | .none => exact .none
  | .some p sl l hp h hr => exact .some p sl l hp (cell_kp hk hG hS hp h) (RowAt.kp hr)
theorem RowAt.kp {v : Value} {l : List TD} (h : RowAt w D v l) : RowAt w' D v l := by
  match h with
  | .nil => exact .nil
  | .row b cap l h => exact .row b cap l fun i t hi => TokAt.kp (h i t hi)
end
end
section
variable {D E : Nat → Prop} {w : World} (hD : ∀ k, D k → E k)
include hD
mutual
theorem TokAt.mono {b o : Nat} {t : TD} (h : TokAt w D b o t) : TokAt w E b o t := by
  match h with
  | .mk _ _ k tx ws un ch s pv lc pl hb hc hs hp => exact .mk _ _ k tx ws un ch s pv lc pl (hD _ hb) hc hs (OptAt.mono hp)
theorem OptAt.mono {v : Value} {c : Option (List TD)} (h : OptAt w D v c) : OptAt w E v c := by
  match h with
  | .none => exact .none
  | .some p sl l hp h hr => exact .some p sl l (hD _ hp) h (RowAt.mono hr)
theorem RowAt.mono {v : Value} {l : List TD} (h : RowAt w D v l) : RowAt w E v l := by
  match h with
  | .nil => exact .nil
  | .row b cap l h => exact .row b cap l fun i t hi => TokAt.mono (h i t hi)
end
end
end Go.Proofs.YtkaejhdncohgpaaGreatFmt

/- Walk: functionMultiLineCommaPeriod at a function with nothing in it. -/
namespace Go.Proofs.YtkaejhdncohgpaaGreatFmt
set_option linter.all false
open Go.RowKit Go.Lib
set_option maxRecDepth 100000
set_option maxHeartbeats 1000000

theorem Period_none (pv : Value) (s : ByteArray) (lc pl un k ws : Int) (w : World) (hT : Lib.Utf8Tabs 1 2 w) (hV : CaseVar 5 caseA w) (hs : s.size < 35184372088832) (p : Nat) (sl : Value) (cap : Nat) (A : Option Addr) (hpv : pv = .pointer (some ⟨p, 0, none⟩)) (hsl : sl = .slice A 0 cap) (hc : w.cell? ⟨p, 0, none⟩ = some sl) (hp : p < w.heap.size) :
    Calls Tryz.prog 107 #[.agg #[pv, .string s, .int .i32 lc, .int .u32 pl, .int .u16 un, .int .u8 27, .int .u8 ws]] w fun e w' => e = .returned (.int .u8 0) ∧ Kp (fun _ => False) w w' := by
  subst hpv hsl
  have hk0 : Kp (fun _ => False) w (w.alloc (.cells #[.pointer (some ⟨p, 0, none⟩), .string s, .int .i32 lc, .int .u32 pl, .int .u16 un, .int .u8 27, .int .u8 ws] 100)) := (Kp.refl _ w).alloc _
  have HL := Lib.hid (Tryz.strings_ToLower_any s _ hs (CaseVar_below hV (hk0.below (Nat.le_refl _) fun _ _ f => f)) (hk0.utf hT))
  go_enter Tryz.func107, Tryz.ntmps107
  go_wp2
  go_loopw [3, 14] (fun c i wr => c = .int .i64 0 ∧ i = .int .i64 0 ∧ wr = w.alloc (.cells #[.pointer (some ⟨p, 0, none⟩), .string s, .int .i32 lc, .int .u32 pl, .int .u16 un, .int .u8 27, .int .u8 ws] 100)) (fun _ _ _ => 0)
  case atStart => exact ⟨rfl, rfl, rfl⟩
  case round =>
    obtain ⟨rfl, rfl, rfl⟩ := hrel
    go_wp2_with (go_at_call 134; (refine HL.out.mono ?_); rintro e w1 ⟨rfl, hk1⟩)
    all_goals (go_ret; exact ⟨rfl, hk0.trans (Kp.ofBelow hk1)⟩)
end Go.Proofs.YtkaejhdncohgpaaGreatFmt

/- Plain words: what tokens are printed as, and how long that may be. No program stands in this file, and no condition. -/
namespace Go.Proofs.YtkaejhdncohgpaaGreatFmt
set_option linter.all false
open Go.RowKit Go.Lib

/-! ### A text in quotes -/
def lowB (b : UInt8) : UInt8 := if 65 ≤ b.toNat ∧ b.toNat ≤ 90 then b + 32 else b
/-- The five letters of the word style, in letters of any size. -/
def styl (l : List UInt8) : Bool := (l.take 5).map lowB == [115, 116, 121, 108, 101]
def qk (a : Bool) (q p c : Int) (r : List Int) : Int :=
  if c = 0 ∨ c = 13 ∨ c = 10 ∨ c = 12 then 2
  else if c = 92 ∨ c = q then 1
  else if c = 40 ∨ c = 41 ∨ c = 32 ∨ c = 9 ∨ c = 34 ∨ c = 39 then 0
  else if c = 47 then (if p = 60 ∧ styl (encs r) = true then 1 else 0)
  else if (a && decide (128 ≤ c) || decide (c = 65279)) = true then 2 else 0
def quotT (a : Bool) (q : Int) : Int → List Int → List UInt8
  | _, [] => []
  | p, c :: r => escP (qk a q p c r) c (encs r) false ++ quotT a q c r
/-- The quotes that are chosen. -/
def bq (cs : List Int) : Int := if cs.count 39 < cs.count 34 then 39 else 34
def quotP (a : Bool) (cs : List Int) : List UInt8 := encd (bq cs) ++ quotT a (bq cs) 0 cs ++ encd (bq cs)
/-- A text parted behind so many bytes. -/
def spl : Nat → List Int → List Int × List Int
  | _, [] => ([], [])
  | n, c :: r => if n = 0 then ([], c :: r) else (c :: (spl (n - (encd c).length) r).1, (spl (n - (encd c).length) r).2)
def hasE (l : List Int) : Bool := l.any fun c => decide (c = 101 ∨ c = 69)

/-! ### Tokens -/
/-- A token without what is within it. -/
def coreT (a wh : Bool) (k : Int) (tx : List Int) (un : Int) : List UInt8 :=
  if k = 29 then identP a wh (iniE 0 tx) tx
  else if k = 27 then identP a wh (iniE 0 tx) tx ++ [40]
  else if k = 26 then encs (spl un.toNat tx).1 ++ identP a wh (iniE (if hasE (spl un.toNat tx).1 then 3 else 2) (spl un.toNat tx).2) (spl un.toNat tx).2
  else if k = 1 then [64] ++ identP a wh (iniE 0 tx) tx
  else if k = 28 then [35] ++ identP a wh 0 tx
  else if k = 36 then quotP a tx
  else encs tx
mutual
def tokT (a wh : Bool) : TD → List UInt8
  | .mk k tx _ un ch => coreT a wh k tx un ++ optT a k ch
def optT (a : Bool) (k : Int) : Option (List TD) → List UInt8
  | none => []
  | some l => rowT a (firstW l) l ++ closeT k
def rowT (a : Bool) (hw : Bool) : List TD → List UInt8
  | [] => if hw then [32] else []
  | t :: r => (if hw then [32] else []) ++ tokT a (nextW t r) t ++ rowT a (nextW t r) r
end
mutual
def costT : TD → Nat
  | .mk _ tx _ _ ch => 8 * (encs tx).length + 400 + costO ch
def costO : Option (List TD) → Nat
  | none => 0
  | some l => costL l
def costL : List TD → Nat
  | [] => 0
  | t :: r => costT t + costL r
end
/-- Whether whitespace is wanted behind the last one. -/
def lastW : Bool → List TD → Bool
  | hw, [] => hw
  | _, t :: r => lastW (nextW t r) r

/-- Kinds that are printed as they are. -/
def Raw (k : Int) : Prop := 0 ≤ k ∧ k < 256 ∧ k ≠ 29 ∧ k ≠ 39 ∧ k ≠ 27 ∧ k ≠ 26 ∧ k ≠ 1 ∧ k ≠ 28 ∧ k ≠ 36 ∧ k ≠ 37 ∧ k ≠ 2 ∧ k ≠ 38
def KOk (uq : Bool) (k : Int) : Prop := k = 29 ∨ k = 27 ∨ k = 1 ∨ k = 28 ∨ uq = true ∧ k = 36 ∨ k = 26 ∨ Raw k
def Opn (k : Int) : Prop := k = 27 ∨ k = 31 ∨ k = 32 ∨ k = 33
mutual
inductive TsOk (uq : Bool) : List TD → Prop
  | nil : TsOk uq []
  | cons (k : Int) (tx : List Int) (ws un : Int) (ch : Option (List TD)) (r : List TD) (hw : ws = 0 ∨ ws = 1 ∨ ws = 2 ∨ ws = 3) (hk : KOk uq k) (hs : ∀ c ∈ tx, Scal c)
      (hu : k = 26 → 0 ≤ un ∧ un < 65536 ∧ un.toNat = (encs (spl un.toNat tx).1).length) (hc : ChOk uq k ch) (hr : TsOk uq r) : TsOk uq (.mk k tx ws un ch :: r)
inductive ChOk (uq : Bool) : Int → Option (List TD) → Prop
  | none (k : Int) (h : ¬ Opn k) : ChOk uq k none
  | some (k : Int) (l : List TD) (h : Opn k) (hl : TsOk uq l) : ChOk uq k (some l)
end

theorem slowT_len (a wh : Bool) : ∀ (cs : List Int), (∀ c ∈ cs, Scal c) → (slowT a wh cs).length ≤ 8 * (encs cs).length
  | [], _ => by simp [slowT, encs_nil]
  | c :: r, h => by
    have hc := h c (by simp)
    have := slowT_len a wh r fun d hd => h d (by simp [hd])
    have := escP_len (esck a c) c (encs r) (wh && decide (esck a c ≠ 0) && r.isEmpty) (by unfold Scal at hc; omega) (by unfold Scal at hc; omega)
    have := (encd_len c).1
    rw [slowT, encs_cons, List.length_append, List.length_append]
    omega
theorem identP_len (a wh : Bool) (i : Int) (cs : List Int) (h : ∀ c ∈ cs, Scal c) : (identP a wh i cs).length ≤ 8 * (encs cs).length := by
  match cs, h with
  | [], _ => simp [identP, encs_nil]
  | c :: r, h =>
    have hc := h c (by simp)
    have := slowT_len a wh r fun d hd => h d (by simp [hd])
    have := escP_len (escF a i c) c (encs r) (wh && decide (escF a i c ≠ 0) && r.isEmpty) (by unfold Scal at hc; omega) (by unfold Scal at hc; omega)
    have := (encd_len c).1
    rw [identP, encs_cons, List.length_append, List.length_append]
    omega
theorem quotT_len (a : Bool) (q : Int) : ∀ (p : Int) (cs : List Int), (∀ c ∈ cs, Scal c) → (quotT a q p cs).length ≤ 8 * (encs cs).length
  | _, [], _ => by simp [quotT, encs_nil]
  | p, c :: r, h => by
    have hc := h c (by simp)
    have := quotT_len a q c r fun d hd => h d (by simp [hd])
    have := escP_len (qk a q p c r) c (encs r) false (by unfold Scal at hc; omega) (by unfold Scal at hc; omega)
    have := (encd_len c).1
    rw [quotT, encs_cons, List.length_append, List.length_append]
    omega
theorem bq_cases (cs : List Int) : bq cs = 39 ∨ bq cs = 34 := by unfold bq; split <;> simp
theorem spl_app : ∀ (n : Nat) (cs : List Int), (spl n cs).1 ++ (spl n cs).2 = cs
  | _, [] => by simp [spl]
  | n, c :: r => by
    simp only [spl]
    split
    · rfl
    · simp [spl_app _ r]
theorem coreT_len (a wh : Bool) (k : Int) (tx : List Int) (un : Int) (h : ∀ c ∈ tx, Scal c) : (coreT a wh k tx un).length ≤ 8 * (encs tx).length + 10 := by
  have h1 := identP_len a wh (iniE 0 tx) tx h
  have h2 := identP_len a wh 0 tx h
  unfold coreT
  split
  · omega
  split
  · simp; omega
  split
  · have e := spl_app un.toNat tx
    have e2 : (encs tx).length = (encs (spl un.toNat tx).1).length + (encs (spl un.toNat tx).2).length := by rw [← List.length_append, ← encs_app, e]
    have h3 := identP_len a wh (iniE (if hasE (spl un.toNat tx).1 then 3 else 2) (spl un.toNat tx).2) (spl un.toNat tx).2 (fun c hc => h c (by rw [← e]; simp [hc]))
    rw [List.length_append]; omega
  split
  · simp; omega
  split
  · simp; omega
  split
  · have h3 := quotT_len a (bq tx) 0 tx h
    have h4 := (encd_len (bq tx)).2
    unfold quotP
    rw [List.length_append, List.length_append]; omega
  · omega
theorem closeT_len (k : Int) : (closeT k).length ≤ 1 := by
  unfold closeT
  repeat' split
  all_goals simp
theorem rowT_len (a : Bool) (uq : Bool) : ∀ (n : Nat) (l : List TD) (hw : Bool), costL l ≤ n → TsOk uq l → (rowT a hw l).length ≤ costL l + 1
  | n, [], hw, _, _ => by cases hw <;> simp [rowT, costL]
  | 0, .mk _ _ _ _ _ :: r, _, h, _ => by simp [costL, costT] at h
  | n + 1, .mk k tx ws un ch :: r, hw, h, .cons _ _ _ _ _ _ _ _ hs _ hc hr => by
    have h1 := coreT_len a (nextW (.mk k tx ws un ch) r) k tx un hs
    have h2 := rowT_len a uq n r (nextW (.mk k tx ws un ch) r) (by simp only [costL, costT] at h; omega) hr
    have h3 : (optT a k ch).length ≤ costO ch + 2 := by
      match ch, hc with
      | none, _ => simp [optT]
      | some l, .some _ _ _ hl =>
        have := rowT_len a uq n l (firstW l) (by simp only [costL, costT, costO] at h; omega) hl
        have := closeT_len k
        rw [optT, List.length_append, costO]; omega
    have h4 : (if hw then [32] else ([] : List UInt8)).length ≤ 1 := by cases hw <;> simp
    rw [rowT, tokT, List.length_append, List.length_append, List.length_append]
    simp only [costL, costT] at h ⊢
    omega
theorem ws_bits (ws : Int) (h : ws = 0 ∨ ws = 1 ∨ ws = 2 ∨ ws = 3) : (bits .and .u8 ws 1 != 0) = decide (ws % 2 = 1) ∧ (bits .and .u8 ws 2 != 0) = decide (ws / 2 % 2 = 1) := by
  rcases h with rfl | rfl | rfl | rfl <;> decide
end Go.Proofs.YtkaejhdncohgpaaGreatFmt

/- Walk: printTokens. -/
namespace Go.Proofs.YtkaejhdncohgpaaGreatFmt
set_option linter.all false
open Go.RowKit Go.Lib
set_option maxRecDepth 100000
set_option maxHeartbeats 4000000

theorem RowAt.opn {w : World} {D : Nat → Prop} {sl : Value} {dn r : List TD} {t : TD} (h : RowAt w D sl (dn ++ t :: r)) : ∃ (b cap : Nat) (s : ByteArray) (pv : Value) (lc pl : Int), sl = .slice (some ⟨b, 0, none⟩) (dn.length + (r.length + 1)) cap ∧ D b ∧
    CellsAt w b (dn.length * 7) pv s lc pl t.un t.k t.ws ∧ s.data.toList = encs t.tx ∧ OptAt w D pv t.ch := by
  generalize hl : dn ++ t :: r = l at h
  cases h with
  | nil => simp at hl
  | row b cap _ h =>
    subst hl
    have := h dn.length t (by simp)
    cases this with
    | mk _ _ k tx ws un ch s pv lc pl hb hc hs hp => exact ⟨b, cap, s, pv, lc, pl, by simp, hb, hc, hs, hp⟩
theorem RowAt.len {w : World} {D : Nat → Prop} {sl : Value} {l : List TD} (h : RowAt w D sl l) : ∃ A cap, sl = .slice A l.length cap ∧ (l = [] ∨ ∃ b, A = some ⟨b, 0, none⟩ ∧ D b) := by
  cases h with
  | nil => exact ⟨_, _, rfl, .inl rfl⟩
  | row b cap l h =>
    refine ⟨_, _, rfl, ?_⟩
    match l, h with
    | [], _ => exact .inl rfl
    | t :: r, h =>
      have := h 0 t rfl
      cases this with
      | mk _ _ k tx ws un ch s pv lc pl hb hc hs hp => exact .inr ⟨b, rfl, hb⟩

/-- No comma, and nothing in a function. -/
def NoCm (l : List TD) : Prop := ∀ t ∈ l, t.k ≠ 10 ∧ (t.k = 27 → t.ch = some [])
/-- The state of the loop over tokens. -/
structure PtS (F : Go.Stop.Interp) (G g : Nat) (m a : Bool) (v : Value) (css : List UInt8) (l : List TD) (w1 : World) (h c i : Value) (wr : World) (dn rs : List TD) (hw : Bool) (v1 : Value) (acc : List UInt8) (cn : Int) : Prop where
  eq : dn ++ rs = l
  h : h = .bool hw
  c : c = .int .i64 cn
  i : i = .int .i64 dn.length
  pn : Pn F G wr g m a v1 (css ++ acc)
  st : Stp g v v1 w1 wr
  ac : acc ++ rowT a hw rs = rowT a (firstW l) l
  la : lastW hw rs = lastW (firstW l) l
  ln : acc.length + costL rs ≤ costL l

theorem OptAt.ptr {w : World} {D : Nat → Prop} {pv : Value} {ch : Option (List TD)} (h : OptAt w D pv ch) : ∃ q, pv = .pointer q := by
  cases h with
  | none => exact ⟨_, rfl⟩
  | some => exact ⟨_, rfl⟩
theorem far_of {F : Go.Stop.Interp} {G g : Nat} {m a : Bool} {v : Value} {css : List UInt8} {w : World} (h : Pn F G w g m a v css) : ∀ k, (k = g ∨ v.ownBlock = some k) → ¬ k < G := by
  rintro k (rfl | hk)
  · have := h.gg; omega
  · have := (own_lt h.pr.own k hk).1; omega
theorem Print_n {F : Go.Stop.Interp} {G g : Nat} {m a : Bool} {v : Value} {css : List UInt8} {w : World} (h : Pn F G w g m a v css) (s : ByteArray) (hb : css.length + s.size ≤ 140737488355328) :
    Calls Tryz.prog 73 #[.pointer (some ⟨g, 0, none⟩), .string s] w fun e w' => e = .returned (.tuple #[]) ∧ Wr F G g m a v w (css ++ s.data.toList) w' :=
  (print_any G g m a v css s w h.pr hb).mono fun _ _ ⟨he, _, hp, hs⟩ => ⟨he, Wr.of h hp hs⟩
theorem Print_1 {F : Go.Stop.Interp} {G g : Nat} {m a : Bool} {v : Value} {css : List UInt8} {w : World} (h : Pn F G w g m a v css) (b : UInt8) (hb : css.length + 1 ≤ 140737488355328) :
    Calls Tryz.prog 73 #[.pointer (some ⟨g, 0, none⟩), .string ⟨#[b]⟩] w fun e w' => e = .returned (.tuple #[]) ∧ Wr F G g m a v w (css ++ [b]) w' := Print_n h ⟨#[b]⟩ hb
theorem Ident0_n {F : Go.Stop.Interp} {G g : Nat} {m a : Bool} {v : Value} {css : List UInt8} {w : World} (wh : Bool) (s : ByteArray) (cs : List Int) (h : Pn F G w g m a v css) (hc : ∀ c ∈ cs, Scal c) (hs : s.data.toList = encs cs) (hb : css.length + 8 * s.size + 100 ≤ 140737488355328) :
    Calls Tryz.prog 80 #[.pointer (some ⟨g, 0, none⟩), .string s, .int .u8 0, .int .u8 (if wh then 0 else 1)] w fun e w' => e = .returned (.tuple #[]) ∧ Wr F G g m a v w (css ++ identP a wh (iniE 0 cs) cs) w' := by
  cases hw : wst cs
  · have e : iniE 0 cs = 1 := by unfold iniE; rw [if_neg (by decide), if_pos hw]
    rw [e]
    exact ident_slow0 F G g m a wh v css s cs w h hc hs hw hb
  · have e : iniE 0 cs = 0 := by unfold iniE; rw [if_neg (by decide), if_neg (by rw [hw]; decide), if_pos rfl]
    rw [e]
    exact ident_fast0 F G g m a wh v css s cs w h hc hs hw hb
theorem Ident1_n {F : Go.Stop.Interp} {G g : Nat} {m a : Bool} {v : Value} {css : List UInt8} {w : World} (wh : Bool) (s : ByteArray) (cs : List Int) (h : Pn F G w g m a v css) (hc : ∀ c ∈ cs, Scal c) (hs : s.data.toList = encs cs) (hb : css.length + 8 * s.size + 100 ≤ 140737488355328) :
    Calls Tryz.prog 80 #[.pointer (some ⟨g, 0, none⟩), .string s, .int .u8 1, .int .u8 (if wh then 0 else 1)] w fun e w' => e = .returned (.tuple #[]) ∧ Wr F G g m a v w (css ++ identP a wh 0 cs) w' :=
  ident_hash F G g m a wh v css s cs w h hc hs hb
theorem TsOk.drop {uq : Bool} : ∀ {dn rs : List TD}, TsOk uq (dn ++ rs) → TsOk uq rs
  | [], _, h => h
  | _ :: dn, rs, h => by
    cases h with
    | cons _ _ _ _ _ _ _ _ _ _ _ hr => exact TsOk.drop (dn := dn) hr
theorem tokens_nil (F : Go.Stop.Interp) (G g : Nat) (m a : Bool) (v : Value) (css : List UInt8) (A : Option Addr) (cap : Nat) (ind : Int) (dec : Bool) (w : World) (h : Pn F G w g m a v css) :
    Calls Tryz.prog 78 #[.pointer (some ⟨g, 0, none⟩), .slice A 0 cap, .agg #[.int .i32 ind, .int .u8 0, .bool dec]] w fun e w' => e = .returned (.bool false) ∧ Wr F G g m a v w css w' := by
  have hlt := h.pr.lt
  obtain ⟨y3, y5, y6, y7, y9, y15, yf⟩ := h.pr.f
  have hW : Wr F G g m a v w css (w.alloc (.cells #[.int .i32 ind, .int .u8 0, .bool dec] 213)) := ⟨v, h.kp ((Kp.refl _ w).alloc _), Stp.pre ((Kp.refl _ w).alloc _) (Stp.refl _ _ _)⟩
  have HW := Lib.hid hW
  clear hW
  cases m
  all_goals
    cases dec
    all_goals
      go_enter Tryz.func78, Tryz.ntmps78
      go_wp2
    all_goals
      refine wp_loop_rounds 1 ?_
      rw [rounds_succ]
      go_wp2
      try (refine wp_loop_rounds 1 ?_; rw [rounds_succ]; go_wp2)
      refine bodyPost_ret (v := .bool false) (by simp [results, Tryz.results78, go_sem]) rfl ⟨rfl, HW.out⟩
theorem Stp.post {g : Nat} {v v' : Value} {a b c : World} (h : Stp g v v' a b) (k : Kp (fun _ => False) b c) : Stp g v v' a c :=
  h.trans ⟨k.mono fun _ _ f => f.elim, fun _ h => .inl h⟩
theorem keepBlk {g : Nat} {v v' : Value} {a b : World} (h : Stp g v v' a b) {B : Nat} {o : Obj} (hB : a.heap[B]? = some o) (hg : g ≠ B) (hv : v.ownBlock ≠ some B) : b.heap[B]? = some o := by
  rw [h.kp.block B (Array.getElem?_eq_some_iff.1 hB).1 (by rintro (e | e); exact hg e.symm; exact hv e)]; exact hB
theorem cells7 {w : World} {B : Nat} {x0 x1 x2 x3 x4 x5 x6 : Value} (h : w.heap[B]? = some (.cells #[x0, x1, x2, x3, x4, x5, x6] 100)) : w.cell? ⟨B, 0, none⟩ = some x0 ∧ w.cell? ⟨B, 1, none⟩ = some x1 ∧ w.cell? ⟨B, 2, none⟩ = some x2 ∧ w.cell? ⟨B, 3, none⟩ = some x3 ∧ w.cell? ⟨B, 4, none⟩ = some x4 ∧ w.cell? ⟨B, 5, none⟩ = some x5 ∧ w.cell? ⟨B, 6, none⟩ = some x6 := by
  simp [World.cell?, h]
theorem cells3 {w : World} {B T : Nat} {x0 x1 x2 : Value} (h : w.heap[B]? = some (.cells #[x0, x1, x2] T)) : w.cell? ⟨B, 0, none⟩ = some x0 ∧ w.cell? ⟨B, 1, none⟩ = some x1 ∧ w.cell? ⟨B, 2, none⟩ = some x2 := by
  simp [World.cell?, h]
theorem ne_own {w : World} {B e n z k : Nat} {v : Value} {xs : List Value} (h : w.ownsRow B e z v n xs) (hk : w.heap.size ≤ k) : v.ownBlock ≠ some k := by
  intro e
  have := (own_lt h k e).2.1
  omega
/-- Behind a call of a function of the printer. -/
structure StA (F : Go.Stop.Interp) (G g : Nat) (m a : Bool) (v1 : Value) (w2 : World) (cs : List UInt8) (wx : World) (vx : Value) : Prop where
  pn : Pn F G wx g m a vx cs
  st : Stp g v1 vx w2 wx
theorem StA.go {F : Go.Stop.Interp} {G g : Nat} {m a : Bool} {v1 vx : Value} {w2 wx wy : World} {cs cs' : List UInt8} (h : StA F G g m a v1 w2 cs wx vx) (hw : Wr F G g m a vx wx cs' wy) : ∃ vy, StA F G g m a v1 w2 cs' wy vy := by
  obtain ⟨vy, hp, hs⟩ := hw
  exact ⟨vy, hp, h.st.trans hs⟩
theorem StA.kp {F : Go.Stop.Interp} {G g : Nat} {m a : Bool} {v1 vx : Value} {w2 wx wy : World} {cs : List UInt8} (h : StA F G g m a v1 w2 cs wx vx) (hk : Kp (fun _ => False) wx wy) : StA F G g m a v1 w2 cs wy vx := ⟨h.pn.kp hk, h.st.post hk⟩
/-- What printTokens does at tokens. -/
def TokC (F : Go.Stop.Interp) (uq : Bool) (G : Nat) (l : List TD) : Prop := ∀ (g : Nat) (m a : Bool) (v : Value) (css : List UInt8) (sl : Value) (ind : Int) (dec : Bool) (w : World), Pn F G w g m a v css → RowAt w (· < G) sl l → TsOk uq l → ((!m && dec) = false ∨ NoCm l) → css.length + costL l + 1000 ≤ 140737488355328 →
    Calls Tryz.prog 78 #[.pointer (some ⟨g, 0, none⟩), sl, .agg #[.int .i32 ind, .int .u8 0, .bool dec]] w fun e w' => e = .returned (.bool (lastW (firstW l) l)) ∧ Wr F G g m a v w (css ++ rowT a (firstW l) l) w'
theorem costL_app : ∀ (a b : List TD), costL (a ++ b) = costL a + costL b
  | [], b => by simp [costL]
  | t :: a, b => by rw [List.cons_append, costL, costL_app a b, costL]; omega
theorem len_cost : ∀ (a : List TD), a.length ≤ costL a
  | [] => Nat.zero_le _
  | .mk k tx ws un ch :: a => by have := len_cost a; rw [costL, costT, List.length_cons]; omega
theorem nextW_f {k : Int} {tx : List Int} {ws un : Int} {ch : Option (List TD)} {r : List TD} (h : decide (ws / 2 % 2 = 1) = false) : Value.bool (firstW r) = Value.bool (nextW (.mk k tx ws un ch) r) := by
  have h2 : ¬ ws / 2 % 2 = 1 := by simpa using h
  unfold nextW wsA; simp [TD.ws, h2]
theorem nextW_t {k : Int} {tx : List Int} {ws un : Int} {ch : Option (List TD)} {r : List TD} (h : decide (ws / 2 % 2 = 1) = true) : Value.bool true = Value.bool (nextW (.mk k tx ws un ch) r) := by
  have h2 : ws / 2 % 2 = 1 := by simpa using h
  unfold nextW wsA; simp [TD.ws, h2]
theorem split_at {α : Type} : ∀ (l : List α) (k : Nat), k < l.length → ∃ dn t r, dn ++ t :: r = l ∧ dn.length = k
  | t :: r, 0, _ => ⟨[], t, r, rfl, rfl⟩
  | x :: l, k + 1, h => by
    obtain ⟨dn, t, r, h1, h2⟩ := split_at l k (by simpa using h)
    exact ⟨x :: dn, t, r, by rw [← h1]; rfl, by simp [h2]⟩
/-- One token more. -/
theorem PtS.next {F : Go.Stop.Interp} {G g : Nat} {m a : Bool} {v : Value} {css : List UInt8} {l : List TD} {w1 : World} {h c i : Value} {wr : World} {dn r : List TD} {t : TD} {hw : Bool} {v1 : Value} {acc : List UInt8} {cn : Int}
    (hI : PtS F G g m a v css l w1 h c i wr dn (t :: r) hw v1 acc cn) {w2 wx : World} {vx : Value} (hk : Kp (fun _ => False) wr w2) (n : Int) (hS : StA F G g m a v1 w2 (css ++ (acc ++ ((if hw then [32] else []) ++ tokT a (nextW t r) t))) wx vx)
    (hl : ((if hw then [32] else ([] : List UInt8)) ++ tokT a (nextW t r) t).length ≤ costT t) :
    PtS F G g m a v css l w1 (.bool (nextW t r)) (.int .i64 n) (.int .i64 ((dn.length : Int) + 1)) wx (dn ++ [t]) r (nextW t r) vx (acc ++ ((if hw then [32] else []) ++ tokT a (nextW t r) t)) n := by
  refine ⟨by rw [← hI.eq]; simp, rfl, rfl, by simp, hS.pn, (hI.st.post hk).trans hS.st, ?_, ?_, ?_⟩
  · rw [← hI.ac, rowT]; simp
  · rw [← hI.la, lastW]
  · have := hI.ln
    rw [costL] at this
    rw [List.length_append]; omega
theorem optT_len (a : Bool) (uq : Bool) (k : Int) (ch : Option (List TD)) (hc : ChOk uq k ch) : (optT a k ch).length ≤ costO ch + 2 := by
  cases hc with
  | none => simp [optT]
  | some _ l _ hl =>
    have := rowT_len a uq (costL l) l (firstW l) (Nat.le_refl _) hl
    have := closeT_len k
    rw [optT, List.length_append, costO]; omega
theorem PtS.next2 {F : Go.Stop.Interp} {uq : Bool} {G g : Nat} {m a : Bool} {v : Value} {css : List UInt8} {l : List TD} {w1 : World} {h c i : Value} {wr : World} {dn r : List TD} {k : Int} {tx : List Int} {ws un : Int} {ch : Option (List TD)} {hw : Bool} {v1 : Value} {acc : List UInt8} {cn : Int}
    (hI : PtS F G g m a v css l w1 h c i wr dn (.mk k tx ws un ch :: r) hw v1 acc cn) {w2 wx : World} {vx : Value} (hk : Kp (fun _ => False) wr w2) (n : Int) (nw : Bool) (hnw : nw = nextW (.mk k tx ws un ch) r)
    (hS : StA F G g m a v1 w2 (css ++ acc ++ (if hw then [32] else []) ++ coreT a nw k tx un ++ optT a k ch) wx vx) (hs : ∀ c ∈ tx, Scal c) (hc : ChOk uq k ch) :
    PtS F G g m a v css l w1 (.bool nw) (.int .i64 n) (.int .i64 ((dn.length : Int) + 1)) wx (dn ++ [.mk k tx ws un ch]) r nw vx (acc ++ ((if hw then [32] else []) ++ tokT a nw (.mk k tx ws un ch))) n := by
  subst hnw
  refine PtS.next hI hk n ?_ ?_
  · have e : css ++ (acc ++ ((if hw then [32] else []) ++ tokT a (nextW (.mk k tx ws un ch) r) (.mk k tx ws un ch))) = css ++ acc ++ (if hw then [32] else []) ++ coreT a (nextW (.mk k tx ws un ch) r) k tx un ++ optT a k ch := by
      rw [tokT]; simp only [List.append_assoc]
    rw [e]; exact hS
  · have h1 := coreT_len a (nextW (.mk k tx ws un ch) r) k tx un hs
    have h2 := optT_len a uq k ch hc
    have h4 : (if hw then [32] else ([] : List UInt8)).length ≤ 1 := by cases hw <;> simp
    rw [tokT, List.length_append, List.length_append, costT]; omega
end Go.Proofs.YtkaejhdncohgpaaGreatFmt
