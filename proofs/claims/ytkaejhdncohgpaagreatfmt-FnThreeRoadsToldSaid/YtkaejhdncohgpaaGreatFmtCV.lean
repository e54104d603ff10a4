/- Walk: printIdent, as a unit (made by gen/dim.py). -/
import Derived.Test.YtkaejhdncohgpaaGreatFmtCB
import Derived.Test.YtkaejhdncohgpaaGreatFmtM6
import Derived.Test.YtkaejhdncohgpaaGreatFmtM4
import Derived.Deep.CutRange
import Derived.Deep.CutBlock
namespace Go.Proofs.YtkaejhdncohgpaaGreatFmt
set_option linter.all false
open Go.RowKit Go.Lib
set_option maxRecDepth 100000
set_option maxHeartbeats 40000000

/-- The first code point's own escape, by the text's bytes. -/
def iniB (mode : Int) : List UInt8 → Int
  | [] => 0
  | [b0] => if 48 ≤ b0.toNat ∧ b0.toNat ≤ 57 then 2 else 0
  | [b0, b1] => if 48 ≤ b0.toNat ∧ b0.toNat ≤ 57 then 2 else if (b0.toNat = 101 ∨ b0.toNat = 69) ∧ mode ≠ 3 ∧ 48 ≤ b1.toNat ∧ b1.toNat ≤ 57 then 2 else 0
  | b0 :: b1 :: b2 :: _ => if 48 ≤ b0.toNat ∧ b0.toNat ≤ 57 then 2 else if (b0.toNat = 101 ∨ b0.toNat = 69) ∧ mode ≠ 3 ∧ (48 ≤ b1.toNat ∧ b1.toNat ≤ 57 ∨ b1.toNat = 45 ∧ 48 ≤ b2.toNat ∧ b2.toNat ≤ 57) then 2 else 0
theorem head_b (c : Int) (h : Scal c) (r : List Int) : ∃ b r', encs (c :: r) = b :: r' ∧ (c < 128 → (b.toNat : Int) = c ∧ r' = encs r) ∧ (128 ≤ c → 128 ≤ b.toNat) := by
  obtain ⟨b, r', e, h1, h2⟩ := encd_head c h
  refine ⟨b, r' ++ encs r, by rw [encs_cons, e]; rfl, fun hc => ⟨h1 hc, ?_⟩, h2⟩
  rw [encd1 hc] at e
  have : r' = [] := by simp at e; exact e.2
  rw [this]; rfl
theorem iniB_no (mode : Int) (b : UInt8) (l : List UInt8) (h0 : ¬ (48 ≤ b.toNat ∧ b.toNat ≤ 57)) (h1 : ¬ ((b.toNat = 101 ∨ b.toNat = 69) ∧ mode ≠ 3)) : iniB mode (b :: l) = 0 := by
  match l with
  | [] => simp [iniB]; omega
  | [b1] => simp only [iniB]; rw [if_neg h0, if_neg (fun h => h1 ⟨h.1, h.2.1⟩)]
  | b1 :: b2 :: r => simp only [iniB]; rw [if_neg h0, if_neg (fun h => h1 ⟨h.1, h.2.1⟩)]
def iniT (mode c : Int) : List Int → Int
  | [] => 0
  | [d] => if (c = 101 ∨ c = 69) ∧ mode ≠ 3 ∧ isDig d = true then 2 else 0
  | d :: e :: _ => if (c = 101 ∨ c = 69) ∧ mode ≠ 3 ∧ (isDig d = true ∨ d = 45 ∧ isDig e = true) then 2 else 0
theorem iniE_T (mode c : Int) (r : List Int) (hm : mode = 2 ∨ mode = 3) (hw : wst (c :: r) = true) : iniE mode (c :: r) = iniT mode c r := by
  unfold iniE
  rw [if_neg (by omega), if_neg (by rw [hw]; decide), if_neg (by omega)]
  match r with
  | [] => rfl
  | [d] => simp [iniT]
  | d :: e :: r => rfl
theorem dig_b {c : Int} {b : UInt8} {X : Prop} (p : c < 128 → (b.toNat : Int) = c ∧ X) (q : 128 ≤ c → 128 ≤ b.toNat) : (48 ≤ b.toNat ∧ b.toNat ≤ 57) ↔ isDig c = true := by
  rw [isDig_iff]
  by_cases h : c < 128
  · have := (p h).1; omega
  · have := q (by omega); omega
theorem iniB_eq (mode : Int) (cs : List Int) (hm : mode = 2 ∨ mode = 3) (hw : wst cs = true) (hc : ∀ c ∈ cs, Scal c) : iniB mode (encs cs) = iniE mode cs := by
  obtain ⟨c, r, rfl⟩ : ∃ c r, cs = c :: r := by
    cases cs with
    | nil => cases hw
    | cons c r => exact ⟨c, r, rfl⟩
  rw [iniE_T mode c r hm hw]
  obtain ⟨b0, r0, e0, p0, q0⟩ := head_b c (hc c (by simp)) r
  have hcd : ¬ (48 ≤ c ∧ c ≤ 57) := by
    simp only [wst, Bool.or_eq_true, Bool.and_eq_true, decide_eq_true_eq] at hw
    rcases hw with h | h
    · intro q; simp [nameSt, starts] at h; omega
    · omega
  have hb0 : ¬ (48 ≤ b0.toNat ∧ b0.toNat ≤ 57) := by
    by_cases q : c < 128
    · have := (p0 q).1; omega
    · have := q0 (by omega); omega
  rw [e0]
  by_cases hE : (c = 101 ∨ c = 69) ∧ mode ≠ 3
  · obtain ⟨p1, p2⟩ := p0 (by omega)
    have hb1 : b0.toNat = 101 ∨ b0.toNat = 69 := by omega
    rw [p2]
    clear p0 q0 e0 p2
    match r, hc with
    | [], _ => simp [encs_nil, iniB, iniT]; omega
    | [d], hc =>
      obtain ⟨b1, r1, e1, p1', q1⟩ := head_b d (hc d (by simp)) []
      have hd := dig_b p1' q1
      rw [e1]
      match r1, p1' with
      | [], p1' =>
        simp only [iniB, iniT]
        rw [if_neg hb0]
        by_cases hdd : isDig d = true
        · rw [if_pos ⟨hb1, hE.2, (hd.2 hdd).1, (hd.2 hdd).2⟩, if_pos ⟨hE.1, hE.2, hdd⟩]
        · rw [if_neg (fun h => hdd (hd.1 ⟨h.2.2.1, h.2.2.2⟩)), if_neg (fun h => hdd h.2.2)]
      | x :: l, p1' =>
        have hge : ¬ d < 128 := fun q => by have := (p1' q).2; simp [encs_nil] at this
        have := q1 (by omega)
        have hdd : ¬ isDig d = true := fun h => by have := hd.2 h; omega
        simp only [iniB, iniT]
        rw [if_neg hb0, if_neg (by rintro ⟨_, _, h | h⟩ <;> omega), if_neg (fun h => hdd h.2.2)]
    | d :: e :: r2, hc =>
      obtain ⟨b1, r1, e1, p1', q1⟩ := head_b d (hc d (by simp)) (e :: r2)
      obtain ⟨b2, r3, e2, p2', q2⟩ := head_b e (hc e (by simp)) r2
      have hd := dig_b p1' q1
      have he := dig_b p2' q2
      rw [e1]
      simp only [iniT]
      by_cases qd : d < 128
      · obtain ⟨u1, u2⟩ := p1' qd
        rw [u2, e2]
        simp only [iniB]
        rw [if_neg hb0]
        by_cases hdd : isDig d = true
        · rw [if_pos ⟨hb1, hE.2, .inl (hd.2 hdd)⟩, if_pos ⟨hE.1, hE.2, .inl hdd⟩]
        · by_cases h45 : d = 45 ∧ isDig e = true
          · rw [if_pos ⟨hb1, hE.2, .inr ⟨by omega, (he.2 h45.2).1, (he.2 h45.2).2⟩⟩, if_pos ⟨hE.1, hE.2, .inr h45⟩]
          · rw [if_neg, if_neg]
            · rintro ⟨_, _, h | h⟩
              · exact hdd h
              · exact h45 h
            · rintro ⟨_, _, h | h⟩
              · exact hdd (hd.1 h)
              · exact h45 ⟨by omega, he.1 h.2⟩
      · have := q1 (by omega)
        have hdd : ¬ isDig d = true := fun h => by have := hd.2 h; omega
        have e3 : iniB mode (b0 :: b1 :: r1) = 0 := by
          match r1 with
          | [] => simp only [iniB]; rw [if_neg hb0, if_neg (by rintro ⟨_, _, h⟩; omega)]
          | x :: l => simp only [iniB]; rw [if_neg hb0, if_neg (by rintro ⟨_, _, h | h⟩ <;> omega)]
        rw [e3, if_neg (by rintro ⟨_, _, h | h⟩; exact hdd h; omega)]
  · have h2 : iniT mode c r = 0 := by
      match r with
      | [] => rfl
      | [d] => exact if_neg (fun h => hE ⟨h.1, h.2.1⟩)
      | d :: e :: r' => exact if_neg (fun h => hE ⟨h.1, h.2.1⟩)
    rw [h2]
    refine iniB_no mode b0 r0 hb0 fun h => hE ⟨?_, h.2⟩
    by_cases q : c < 128
    · have := (p0 q).1; omega
    · have := q0 (by omega); omega

/-- How a unit begins, and what its first escape is (mode 2). -/
inductive LfP (s : ByteArray) : Int → Prop
  | lo (b0 : UInt8) (h : 0 < s.size) (e0 : s[0]'h = b0) (p : b0.toNat < 48) : LfP s 0
  | hi (b0 : UInt8) (h : 0 < s.size) (e0 : s[0]'h = b0) (p : 58 ≤ b0.toNat) (q : ¬ (b0.toNat = 101 ∨ b0.toNat = 69)) : LfP s 0
  | n1 (b0 : UInt8) (h : 0 < s.size) (e0 : s[0]'h = b0) (hE : b0.toNat = 101 ∨ b0.toNat = 69) (z : s.size < 2) : LfP s 0
  | n2 (b0 b1 : UInt8) (h : 1 < s.size) (e0 : s[0]'(by omega) = b0) (e1 : s[1]'h = b1) (hE : b0.toNat = 101 ∨ b0.toNat = 69) (z : s.size < 3) (p : b1.toNat < 48 ∨ 58 ≤ b1.toNat) : LfP s 0
  | d2 (b0 b1 : UInt8) (h : 1 < s.size) (e0 : s[0]'(by omega) = b0) (e1 : s[1]'h = b1) (hE : b0.toNat = 101 ∨ b0.toNat = 69) (p : 48 ≤ b1.toNat ∧ b1.toNat ≤ 57) : LfP s 2
  | n3 (b0 b1 : UInt8) (h : 2 < s.size) (e0 : s[0]'(by omega) = b0) (e1 : s[1]'(by omega) = b1) (hE : b0.toNat = 101 ∨ b0.toNat = 69) (p : b1.toNat < 48 ∧ b1.toNat ≠ 45 ∨ 58 ≤ b1.toNat) : LfP s 0
  | m3 (b0 b1 b2 : UInt8) (h : 2 < s.size) (e0 : s[0]'(by omega) = b0) (e1 : s[1]'(by omega) = b1) (e2 : s[2]'h = b2) (hE : b0.toNat = 101 ∨ b0.toNat = 69) (p : b1.toNat = 45) (q : b2.toNat < 48 ∨ 58 ≤ b2.toNat) : LfP s 0
  | g3 (b0 b1 b2 : UInt8) (h : 2 < s.size) (e0 : s[0]'(by omega) = b0) (e1 : s[1]'(by omega) = b1) (e2 : s[2]'h = b2) (hE : b0.toNat = 101 ∨ b0.toNat = 69) (p : b1.toNat = 45) (q : 48 ≤ b2.toNat ∧ b2.toNat ≤ 57) : LfP s 2
theorem lf_of (b0 : UInt8) (r0 : List UInt8) (hd0 : ¬ (48 ≤ b0.toNat ∧ b0.toNat ≤ 57)) : LfP (bstr (b0 :: r0)) (iniB 2 (b0 :: r0)) := by
  have hz : (bstr (b0 :: r0)).size = r0.length + 1 := by rw [bstr_size]; rfl
  by_cases hE : b0.toNat = 101 ∨ b0.toNat = 69
  · match r0, hz with
    | [], hz =>
      rw [show iniB 2 [b0] = 0 by simp only [iniB]; rw [if_neg hd0]]
      exact .n1 b0 (by omega) rfl hE (by simp at hz; omega)
    | [b1], hz =>
      by_cases p : 48 ≤ b1.toNat ∧ b1.toNat ≤ 57
      · rw [show iniB 2 [b0, b1] = 2 by simp only [iniB]; rw [if_neg hd0, if_pos ⟨hE, by decide, p⟩]]
        exact .d2 b0 b1 (by simp at hz; omega) rfl rfl hE p
      · rw [show iniB 2 [b0, b1] = 0 by simp only [iniB]; rw [if_neg hd0, if_neg (fun h => p h.2.2)]]
        exact .n2 b0 b1 (by simp at hz; omega) rfl rfl hE (by simp at hz; omega) (by omega)
    | b1 :: b2 :: r, hz =>
      by_cases p : 48 ≤ b1.toNat ∧ b1.toNat ≤ 57
      · rw [show iniB 2 (b0 :: b1 :: b2 :: r) = 2 by simp only [iniB]; rw [if_neg hd0, if_pos ⟨hE, by decide, .inl p⟩]]
        exact .d2 b0 b1 (by simp at hz; omega) rfl rfl hE p
      · by_cases q : b1.toNat = 45
        · by_cases u : 48 ≤ b2.toNat ∧ b2.toNat ≤ 57
          · rw [show iniB 2 (b0 :: b1 :: b2 :: r) = 2 by simp only [iniB]; rw [if_neg hd0, if_pos ⟨hE, by decide, .inr ⟨q, u⟩⟩]]
            exact .g3 b0 b1 b2 (by simp at hz; omega) rfl rfl rfl hE q u
          · rw [show iniB 2 (b0 :: b1 :: b2 :: r) = 0 by simp only [iniB]; rw [if_neg hd0, if_neg (by rintro ⟨_, _, h | h⟩; exact p h; exact u h.2)]]
            exact .m3 b0 b1 b2 (by simp at hz; omega) rfl rfl rfl hE q (by omega)
        · rw [show iniB 2 (b0 :: b1 :: b2 :: r) = 0 by simp only [iniB]; rw [if_neg hd0, if_neg (by rintro ⟨_, _, h | h⟩; exact p h; exact q h.1)]]
          exact .n3 b0 b1 (by simp at hz; omega) rfl rfl hE (by omega)
  · rw [iniB_no 2 b0 r0 hd0 (fun h => hE h.1)]
    by_cases p : b0.toNat < 48
    · exact .lo b0 (by omega) rfl p
    · exact .hi b0 (by omega) rfl (by omega) hE
theorem lf_cs (s : ByteArray) (cs : List Int) (i : Int) (hw : wst cs = true) (hi : iniE 2 cs = i) (hc : ∀ c ∈ cs, Scal c) (hs : s.data.toList = encs cs) : LfP s i := by
  obtain ⟨c, r, rfl⟩ : ∃ c r, cs = c :: r := by
    cases cs with
    | nil => cases hw
    | cons c r => exact ⟨c, r, rfl⟩
  have hI := iniB_eq 2 (c :: r) (.inl rfl) hw hc
  obtain ⟨b0, r0, e0, p0, q0⟩ := head_b c (hc c (by simp)) r
  have hcd : ¬ (48 ≤ c ∧ c ≤ 57) := by
    simp only [wst, Bool.or_eq_true, Bool.and_eq_true, decide_eq_true_eq] at hw
    rcases hw with h | h
    · intro q; simp [nameSt, starts] at h; omega
    · omega
  have hd0 : ¬ (48 ≤ b0.toNat ∧ b0.toNat ≤ 57) := by
    by_cases q : c < 128
    · have := (p0 q).1; omega
    · have := q0 (by omega); omega
  rw [e0] at hI hs
  obtain rfl : s = bstr (b0 :: r0) := by rw [← hs]; rfl
  rw [← hi, ← hI]
  exact lf_of b0 r0 hd0

theorem ident_d20 (F : Go.Stop.Interp) (G g : Nat) (m a wh : Bool) (v : Value) (css : List UInt8) (s : ByteArray) (cs : List Int) (w : World) (h : Pn F G w g m a v css) (hc : ∀ c ∈ cs, Scal c) (hs : s.data.toList = encs cs) (hw : wst cs = true) (hi : iniE 2 cs = 0) (hb : css.length + 8 * s.size + 100 ≤ 140737488355328) :
    Calls Tryz.prog 80 #[.pointer (some ⟨g, 0, none⟩), .string s, .int .u8 2, .int .u8 (if wh then 0 else 1)] w fun e w' => e = .returned (.tuple #[]) ∧ Wr F G g m a v w (css ++ identP a wh 0 cs) w' := by
  have HWS := Lib.hid (WouldStart_any s cs w h.tb.u8 hc hs)
  rw [hw] at HWS
  obtain ⟨wi, hwi⟩ : ∃ x : Int, x = (if wh then 0 else 1) := ⟨_, rfl⟩
  rw [← hwi]
  have HWI := Lib.hid hwi
  have HC := Lib.hid hc
  have HS := Lib.hid hs
  clear hwi hc hs
  go_enter Tryz.func80, Tryz.ntmps80
  have HLF : Hid (LfP s 0) := Lib.hid (lf_cs s cs 0 hw hi HC.out HS.out)
  go_upto_block 0 with fail
  go_cut [9] from 17 to 96 (fun t9 wr => t9 = .int .u8 0 ∧ Kp (fun _ => False) w wr)
  case first =>
    clear hi hw h hb HC HS
    cases HLF.out with
    | lo b0 h e0 p =>
      have z1 : (0 : Int) < (s.size : Int) := by omega
      have t1 : ¬ (48 : Int) ≤ ((b0.toNat : Nat) : Int) := by omega
      have q1 : (((b0.toNat : Nat) : Int) == 101) = false := by simp; omega
      have q2 : (((b0.toNat : Nat) : Int) == 69) = false := by simp; omega
      go_wp2_with (go_at_call 112; (refine HWS.out.mono ?_); rintro e w1 ⟨rfl, hk1⟩)
      go_meet
      exact ⟨rfl, hk1⟩
    | hi b0 h e0 p q =>
      have z1 : (0 : Int) < (s.size : Int) := by omega
      have t1 : (48 : Int) ≤ ((b0.toNat : Nat) : Int) := by omega
      have t2 : ¬ ((b0.toNat : Nat) : Int) ≤ 57 := by omega
      have q1 : (((b0.toNat : Nat) : Int) == 101) = false := by simp; omega
      have q2 : (((b0.toNat : Nat) : Int) == 69) = false := by simp; omega
      go_wp2_with (go_at_call 112; (refine HWS.out.mono ?_); rintro e w1 ⟨rfl, hk1⟩)
      go_meet
      exact ⟨rfl, hk1⟩
    | n1 b0 h e0 hE z =>
      have z1 : (0 : Int) < (s.size : Int) := by omega
      have z2 : ¬ (2 : Int) ≤ (s.size : Int) := by omega
      have z3 : ¬ (3 : Int) ≤ (s.size : Int) := by omega
      have t1 : (48 : Int) ≤ ((b0.toNat : Nat) : Int) := by omega
      have t2 : ¬ ((b0.toNat : Nat) : Int) ≤ 57 := by omega
      obtain ⟨f1, hf1⟩ : ∃ f : Bool, (((b0.toNat : Nat) : Int) == 101) = f := ⟨_, rfl⟩
      have hf2 : f1 = false → (((b0.toNat : Nat) : Int) == 69) = true := by intro h; rw [h] at hf1; simp at hf1 ⊢; omega
      clear hE
      cases f1
      · have hf3 := hf2 rfl
        clear hf2
        go_wp2_with (go_at_call 112; (refine HWS.out.mono ?_); rintro e w1 ⟨rfl, hk1⟩)
        go_meet
        exact ⟨rfl, hk1⟩
      · clear hf2
        go_wp2_with (go_at_call 112; (refine HWS.out.mono ?_); rintro e w1 ⟨rfl, hk1⟩)
        go_meet
        exact ⟨rfl, hk1⟩
    | n2 b0 b1 h e0 e1 hE z p =>
      have z1 : (0 : Int) < (s.size : Int) := by omega
      have z2 : (2 : Int) ≤ (s.size : Int) := by omega
      have z3 : ¬ (3 : Int) ≤ (s.size : Int) := by omega
      have t1 : (48 : Int) ≤ ((b0.toNat : Nat) : Int) := by omega
      have t2 : ¬ ((b0.toNat : Nat) : Int) ≤ 57 := by omega
      obtain ⟨f1, hf1⟩ : ∃ f : Bool, (((b0.toNat : Nat) : Int) == 101) = f := ⟨_, rfl⟩
      have hf2 : f1 = false → (((b0.toNat : Nat) : Int) == 69) = true := by intro h; rw [h] at hf1; simp at hf1 ⊢; omega
      clear hE
      cases f1
      · have hf3 := hf2 rfl
        clear hf2
        by_cases pp : b1.toNat < 48
        · have u1 : ¬ (48 : Int) ≤ ((b1.toNat : Nat) : Int) := by omega
          go_wp2_with (go_at_call 112; (refine HWS.out.mono ?_); rintro e w1 ⟨rfl, hk1⟩)
          go_meet
          exact ⟨rfl, hk1⟩
        · have u1 : (48 : Int) ≤ ((b1.toNat : Nat) : Int) := by omega
          have u2 : ¬ ((b1.toNat : Nat) : Int) ≤ 57 := by omega
          go_wp2_with (go_at_call 112; (refine HWS.out.mono ?_); rintro e w1 ⟨rfl, hk1⟩)
          go_meet
          exact ⟨rfl, hk1⟩
      · clear hf2
        by_cases pp : b1.toNat < 48
        · have u1 : ¬ (48 : Int) ≤ ((b1.toNat : Nat) : Int) := by omega
          go_wp2_with (go_at_call 112; (refine HWS.out.mono ?_); rintro e w1 ⟨rfl, hk1⟩)
          go_meet
          exact ⟨rfl, hk1⟩
        · have u1 : (48 : Int) ≤ ((b1.toNat : Nat) : Int) := by omega
          have u2 : ¬ ((b1.toNat : Nat) : Int) ≤ 57 := by omega
          go_wp2_with (go_at_call 112; (refine HWS.out.mono ?_); rintro e w1 ⟨rfl, hk1⟩)
          go_meet
          exact ⟨rfl, hk1⟩
    | n3 b0 b1 h e0 e1 hE p =>
      have z1 : (0 : Int) < (s.size : Int) := by omega
      have z2 : (2 : Int) ≤ (s.size : Int) := by omega
      have z3 : (3 : Int) ≤ (s.size : Int) := by omega
      have u5 : (((b1.toNat : Nat) : Int) == 45) = false := by simp; omega
      have t1 : (48 : Int) ≤ ((b0.toNat : Nat) : Int) := by omega
      have t2 : ¬ ((b0.toNat : Nat) : Int) ≤ 57 := by omega
      obtain ⟨f1, hf1⟩ : ∃ f : Bool, (((b0.toNat : Nat) : Int) == 101) = f := ⟨_, rfl⟩
      have hf2 : f1 = false → (((b0.toNat : Nat) : Int) == 69) = true := by intro h; rw [h] at hf1; simp at hf1 ⊢; omega
      clear hE
      cases f1
      · have hf3 := hf2 rfl
        clear hf2
        by_cases pp : b1.toNat < 48
        · have u1 : ¬ (48 : Int) ≤ ((b1.toNat : Nat) : Int) := by omega
          go_wp2_with (go_at_call 112; (refine HWS.out.mono ?_); rintro e w1 ⟨rfl, hk1⟩)
          go_meet
          exact ⟨rfl, hk1⟩
        · have u1 : (48 : Int) ≤ ((b1.toNat : Nat) : Int) := by omega
          have u2 : ¬ ((b1.toNat : Nat) : Int) ≤ 57 := by omega
          go_wp2_with (go_at_call 112; (refine HWS.out.mono ?_); rintro e w1 ⟨rfl, hk1⟩)
          go_meet
          exact ⟨rfl, hk1⟩
      · clear hf2
        by_cases pp : b1.toNat < 48
        · have u1 : ¬ (48 : Int) ≤ ((b1.toNat : Nat) : Int) := by omega
          go_wp2_with (go_at_call 112; (refine HWS.out.mono ?_); rintro e w1 ⟨rfl, hk1⟩)
          go_meet
          exact ⟨rfl, hk1⟩
        · have u1 : (48 : Int) ≤ ((b1.toNat : Nat) : Int) := by omega
          have u2 : ¬ ((b1.toNat : Nat) : Int) ≤ 57 := by omega
          go_wp2_with (go_at_call 112; (refine HWS.out.mono ?_); rintro e w1 ⟨rfl, hk1⟩)
          go_meet
          exact ⟨rfl, hk1⟩
    | m3 b0 b1 b2 h e0 e1 e2 hE p q =>
      have z1 : (0 : Int) < (s.size : Int) := by omega
      have z2 : (2 : Int) ≤ (s.size : Int) := by omega
      have z3 : (3 : Int) ≤ (s.size : Int) := by omega
      have u5 : (((b1.toNat : Nat) : Int) == 45) = true := by simp; omega
      have u6 : ¬ (48 : Int) ≤ ((b1.toNat : Nat) : Int) := by omega
      have t1 : (48 : Int) ≤ ((b0.toNat : Nat) : Int) := by omega
      have t2 : ¬ ((b0.toNat : Nat) : Int) ≤ 57 := by omega
      obtain ⟨f1, hf1⟩ : ∃ f : Bool, (((b0.toNat : Nat) : Int) == 101) = f := ⟨_, rfl⟩
      have hf2 : f1 = false → (((b0.toNat : Nat) : Int) == 69) = true := by intro h; rw [h] at hf1; simp at hf1 ⊢; omega
      clear hE
      cases f1
      · have hf3 := hf2 rfl
        clear hf2
        by_cases pp : b2.toNat < 48
        · have u1 : ¬ (48 : Int) ≤ ((b2.toNat : Nat) : Int) := by omega
          go_wp2_with (go_at_call 112; (refine HWS.out.mono ?_); rintro e w1 ⟨rfl, hk1⟩)
          go_meet
          exact ⟨rfl, hk1⟩
        · have u1 : (48 : Int) ≤ ((b2.toNat : Nat) : Int) := by omega
          have u2 : ¬ ((b2.toNat : Nat) : Int) ≤ 57 := by omega
          go_wp2_with (go_at_call 112; (refine HWS.out.mono ?_); rintro e w1 ⟨rfl, hk1⟩)
          go_meet
          exact ⟨rfl, hk1⟩
      · clear hf2
        by_cases pp : b2.toNat < 48
        · have u1 : ¬ (48 : Int) ≤ ((b2.toNat : Nat) : Int) := by omega
          go_wp2_with (go_at_call 112; (refine HWS.out.mono ?_); rintro e w1 ⟨rfl, hk1⟩)
          go_meet
          exact ⟨rfl, hk1⟩
        · have u1 : (48 : Int) ≤ ((b2.toNat : Nat) : Int) := by omega
          have u2 : ¬ ((b2.toNat : Nat) : Int) ≤ 57 := by omega
          go_wp2_with (go_at_call 112; (refine HWS.out.mono ?_); rintro e w1 ⟨rfl, hk1⟩)
          go_meet
          exact ⟨rfl, hk1⟩
  obtain ⟨rfl, hk1⟩ := hcut
  generalize hwc : wc = w1 at *
  clear hwc HLF
  go_wp2
  refine wp_scope_out 0 rfl ?_
  go_wp2
  go_loopw [11, 12] (fun t _ wr => ∃ i, FsS s w1 t wr i) (fun t _ _ => s.size - (match t with | .int _ x => x.toNat | _ => 0))
  case atStart => exact ⟨0, rfl, by omega, by simp, rfl⟩
  case round =>
    obtain ⟨i, hF⟩ := hrel
    obtain ⟨rfl, hle, hok, rfl⟩ := hF
    have HOK := Lib.hid hok
    clear hok
    by_cases q : i < s.size
    · obtain ⟨b, hb0⟩ : ∃ b, s[i]'q = b := ⟨_, rfl⟩
      have HB0 := Lib.hid hb0
      have hbl := b.toNat_lt
      go_upto_region 24 with fail
      clear hb0
      go_cut [97] (fun t wr => t = .bool (!okB b) ∧ w1 = wr)
      case first =>
        by_cases q2 : 128 ≤ b.toNat
        · have hO : okB b = false := by simp [okB]; omega
          have HO := Lib.hid hO
          clear hO
          go_wp2
          go_meet
          exact ⟨by rw [HO.out]; rfl, rfl⟩
        · have hlt : b.toNat < 128 := by omega
          cases hn : nameCo (b.toNat : Int)
          all_goals
            have hO : okB b = nameCo (b.toNat : Int) := by simp [okB, hlt]
            have HO := Lib.hid hO
            have HN := Lib.hid hn
            clear hO hn q2
            go_wp2_with (go_at_call 113; (with_reducible refine (IsNameContinue_any ..).mono ?_); rw [HN.out]; rintro e w9 ⟨rfl, rfl⟩)
            go_meet
            exact ⟨by rw [HO.out, HN.out]; simp <;> omega, rfl⟩
      case rest =>
        obtain ⟨rfl, rfl⟩ := hcut
        cases hO : okB b
        · go_wp2
          apply wp_goto
          refine ⟨rfl, ?_⟩
          clear hO HB0 HOK hbl
          go_wp2
          have hG1 : G ≤ w1.heap.size := by have := h.pr.ge; have := hk1.size; omega
          have h0 : IdS F G g m a wh 0 v css s cs w w1.heap.size (w1.iter s 0) [] cs v [] := by
            refine ⟨rfl, World.iter_heap w1 s 0, hk1.size, ?_, ?_, by simp, by simp⟩
            · rw [List.append_nil]; exact h.kp (hk1.alloc _)
            · exact ⟨(hk1.alloc _).mono fun _ _ f => f.elim, fun _ hk => .inl hk⟩
          have H0 := Lib.hid h0
          clear h0
          go_loopw [13] (fun _ wr => ∃ dn rs v1 acc, IdS F G g m a wh 0 v css s cs w w1.heap.size wr dn rs v1 acc) (fun _ wr => s.size - wr.iterPos w1.heap.size)
          case atStart => exact ⟨_, _, _, _, H0.out⟩
          case round =>
            obtain ⟨dn, rs, v1, acc, hI⟩ := hrel
            match rs, hI with
            | [], hI =>
              obtain ⟨hnx, hw⟩ := hI.stop HS.out
              have HW := Lib.hid hw
              clear hw hI
              go_wp2
              go_end0
              exact ⟨rfl, HW.out⟩
            | c :: r, hI =>
              have hcc : Scal c := HC.out c (by rw [← hI.eq]; simp)
              obtain ⟨hnx, hz, hx⟩ := hI.step HS.out hcc
              obtain ⟨p2, s2, i2, n2, g2⟩ := hI.go hG1 ((encs dn).length + (encd c).length)
              generalize wr.iterAt w1.heap.size s ((encs dn).length + (encd c).length) = wr2 at *
              obtain ⟨y3, y5, y6, y7, y9, y15, yf⟩ := p2.pr.f
              have HI := Lib.hid hI
              have HX := Lib.hid hx
              have HZ := Lib.hid hz
              have HP := Lib.hid p2
              have HS2 := Lib.hid s2
              have HI2 := Lib.hid i2
              have HN2 := Lib.hid n2
              have HCC := Lib.hid hcc
              clear hI hx hz p2 s2 i2 n2 hcc y3 y5 y6 y9 y15 yf
              generalize hpos : (encs dn).length = pos at *
              have HPOS := Lib.hid hpos
              clear hpos
              obtain ⟨kk, hkk⟩ : ∃ x : Int, x = if dn = [] then escF a 0 c else esck a c := ⟨_, rfl⟩
              have HKK := Lib.hid hkk
              clear hkk
              go_upto_region 30 with fail
              go_cut [121] (fun t wr => t = .bool (a && decide (128 ≤ c)) ∧ wr2 = wr)
              case first =>
                cases a
                · go_wp2
                  go_meet
                  exact ⟨rfl, rfl⟩
                · by_cases q : 128 ≤ c
                  · go_wp2
                    go_meet
                    exact ⟨by simp [q], rfl⟩
                  · have q' : c < 128 := by omega
                    go_wp2
                    go_meet
                    exact ⟨by simp [q], rfl⟩
              case rest =>
                obtain ⟨rfl, rfl⟩ := hcut
                go_upto_if 121 with fail
                go_cut [15] (fun t wr => t = .int .u8 kk ∧ wr2 = wr)
                case first =>
                  cases q0 : (a && decide (128 ≤ c))
                  · cases q1 : decide (c = 13 ∨ c = 10 ∨ c = 12 ∨ c = 65279)
                    · have hk0 : hexK a c = false := by unfold hexK; rw [q0, q1]; rfl
                      simp at q1
                      have b1 : (c == 13) = false := by simp; omega
                      have b2 : (c == 10) = false := by simp; omega
                      have b3 : (c == 12) = false := by simp; omega
                      have b4 : (c == 65279) = false := by simp; omega
                      clear q1
                      by_cases hd : dn = []
                      · have hkk2 : kk = escF a 0 c := by rw [HKK.out, if_pos hd]
                        have bz : ((pos : Int) == 0) = true := by have := HPOS.out; rw [hd] at this; simp [encs_nil] at this; simp; omega
                        cases hn : nameCo c
                        all_goals
                          have hkk3 : kk = if (0 : Int) ≠ 0 then 0 else if nameCo c = true then 0 else 1 := by rw [hkk2, escF, if_neg (by rw [hk0]; decide)]
                          have HK3 := Lib.hid hkk3
                          have HN := Lib.hid hn
                          clear hn hkk3 hkk2 hk0 hd
                          go_wp2_with (go_at_call 113; (with_reducible refine (IsNameContinue_any ..).mono ?_); rw [HN.out]; rintro e w9 ⟨rfl, rfl⟩)
                          go_meet
                          exact ⟨by rw [HK3.out]; simp [HN.out], rfl⟩
                      · have hkk2 : kk = esck a c := by rw [HKK.out, if_neg hd]
                        have bz : ((pos : Int) == 0) = false := by
                          have := HPOS.out
                          have := encs_len dn
                          have : 0 < dn.length := List.length_pos_iff.2 hd
                          simp; omega
                        cases hn : nameCo c
                        all_goals
                          have hkk3 : kk = if nameCo c = true then 0 else 1 := by rw [hkk2, esck, if_neg (by rw [hk0]; decide)]
                          have HK3 := Lib.hid hkk3
                          have HN := Lib.hid hn
                          clear hn hkk3 hkk2 hk0 hd
                          go_wp2_with (go_at_call 113; (with_reducible refine (IsNameContinue_any ..).mono ?_); rw [HN.out]; rintro e w9 ⟨rfl, rfl⟩)
                          go_meet
                          exact ⟨by rw [HK3.out]; simp [HN.out], rfl⟩
                    · have hk0 : hexK a c = true := by unfold hexK; rw [q0, q1]; rfl
                      have HK3 : Hid (kk = 2) := Lib.hid (by rw [HKK.out]; split <;> simp [escF, esck, hk0])
                      simp at q1
                      clear hk0
                      rcases q1 with rfl | rfl | rfl | rfl
                      all_goals
                        go_wp2
                        go_meet
                        exact ⟨by rw [HK3.out], rfl⟩
                  · have hk0 : hexK a c = true := by unfold hexK; rw [q0]; rfl
                    have HK3 : Hid (kk = 2) := Lib.hid (by rw [HKK.out]; split <;> simp [escF, esck, hk0])
                    clear hk0
                    go_wp2
                    go_meet
                    exact ⟨by rw [HK3.out], rfl⟩
                case rest =>
                  obtain ⟨rfl, rfl⟩ := hcut
                  have HKR : Hid (kk = 0 ∨ kk = 1 ∨ kk = 2) := Lib.hid (by
                    rw [HKK.out]
                    split
                    · unfold escF; repeat' split
                      all_goals simp
                    · unfold esck; repeat' split
                      all_goals simp)
                  have HRL := Lib.hid (runeLen_encd c HCC.out)
                  have HL4 := Lib.hid (encd_len c)
                  generalize hLL : (encd c).length = L at *
                  have HLL := Lib.hid hLL
                  clear hLL y7
                  go_upto_region 38 with fail
                  go_cut [16] (fun t wr => t = .bool (wh && decide (kk ≠ 0) && r.isEmpty) ∧ wr2 = wr)
                  case first =>
                    have hle : pos + L ≤ s.size := by have := HZ.out; omega
                    cases wh
                    · have hwi : wi = 1 := HWI.out
                      subst hwi
                      go_wp2
                      go_meet
                      exact ⟨rfl, rfl⟩
                    · have hwi : wi = 0 := HWI.out
                      subst hwi
                      rcases HKR.out with e | e | e
                      · subst e
                        go_wp2
                        go_meet
                        exact ⟨rfl, rfl⟩
                      all_goals
                        subst e
                        cases r with
                        | nil =>
                          have hq : (((pos : Int) + (L : Int)) == (s.size : Int)) = true := by have := HZ.out; simp [encs_nil] at this; simp; omega
                          go_wp2_with (go_at_call 114; (with_reducible refine (Tryz.utf8_RuneLen ..).mono ?_); rw [HRL.out]; rintro e w9 ⟨rfl, rfl⟩)
                          go_meet
                          exact ⟨rfl, rfl⟩
                        | cons d r =>
                          have hq : (((pos : Int) + (L : Int)) == (s.size : Int)) = false := by
                            have := HZ.out
                            have := encs_len (d :: r)
                            simp only [List.length_cons] at this
                            simp; omega
                          go_wp2_with (go_at_call 114; (with_reducible refine (Tryz.utf8_RuneLen ..).mono ?_); rw [HRL.out]; rintro e w9 ⟨rfl, rfl⟩)
                          go_meet
                          exact ⟨rfl, rfl⟩
                  case rest =>
                    obtain ⟨rfl, rfl⟩ := hcut
                    have hlep : pos ≤ s.size := by have := HZ.out; omega
                    have HKV : Hid (kk = 0 ∨ kk = 2 ∨ kk = 1 ∧ (hexv c < 0 ∨ 48 ≤ c ∧ c ≤ 57)) := Lib.hid (kk_ok a 0 c kk dn HKK.out (.inl rfl))
                    have hbb : Hid ((css ++ acc).length + 100 ≤ 140737488355328) := Lib.hid (by
                      have := HI.out.ln
                      have := HPOS.out
                      rw [List.length_append]; omega)
                    generalize hls : (wh && decide (kk ≠ 0) && r.isEmpty) = lst at *
                    have HLS := Lib.hid hls
                    clear hls
                    go_wp2_with (go_at_call 101; (with_reducible refine (Escape_any F G g m a _ _ _ c _ (encs r) _ _ HP.out HCC.out HKV.out hbb.out HX.out).mono ?_); rintro e w9 ⟨rfl, hw9⟩)
                    obtain ⟨v2, acc2, hN⟩ := HI.out.next HCC.out kk HKK.out HS2.out (by rw [HPOS.out, HLL.out]; exact HI2.out) HN2.out g2 (by rw [HLS.out]; exact hw9)
                    refine ⟨⟨dn ++ [c], r, v2, acc2, hN⟩, ?_⟩
                    simp only [World.iterPos, hN.it, HI.out.it, encs_app, encs_cons, encs_nil, List.append_nil, List.length_append]
                    have h1 := HPOS.out
                    have h2 := HLL.out
                    have h3 := HL4.out
                    have h4 := HZ.out
                    omega
        · have hk := take_next s i q b HB0.out HOK.out hO
          have HK := Lib.hid hk
          clear hk
          go_wp2
          refine ⟨⟨i + 1, ?_, by omega, HK.out, rfl⟩, ?_⟩
          · simp
          · simp; omega
    · have hall : ∀ b ∈ encs cs, okB b = true := by
        intro b hb
        have := HOK.out
        rw [List.take_of_length_le (by simp; omega), HS.out] at this
        exact this b hb
      have hP := h.kp hk1
      obtain ⟨y3, y5, y6, y7, y9, y15, yf⟩ := hP.pr.f
      have hown := hP.pr.own
      have hge := hP.pr.ge
      have hlt := hP.pr.lt
      have HE := Lib.hid (identP_ok a wh cs HC.out hall)
      have HP := Lib.hid hP
      clear hall hP
      have hbb : css.length + s.size ≤ 140737488355328 := by omega
      go_wp2_with (at_builtin; refine app_str (.tmp 102) (.tmp 103) rfl rfl G v css rfl hown s rfl hbb hge ?_)
      intro v' w2 hA
      obtain ⟨A', n', cp', rfl⟩ := hA.form
      obtain ⟨c15, d15⟩ := HP.out.pr.at1 hA
      obtain ⟨P2, S2⟩ := HP.out.pr.app hA
      have hw2 := Wr.of h P2 (S2.pre hk1)
      have HW2 := Lib.hid hw2
      clear P2 S2 hw2 hown hge y3 y5 y6 y7 y9 y15 yf hA
      go_wp2
      rw [Exit.jump_ret]
      simp only [Exit.then]
      have hh := HW2.out
      rw [HS.out, ← HE.out] at hh
      exact bodyPost_ret (results_none rfl _ _ _) rfl ⟨rfl, hh⟩

theorem ident_d30 (F : Go.Stop.Interp) (G g : Nat) (m a wh : Bool) (v : Value) (css : List UInt8) (s : ByteArray) (cs : List Int) (w : World) (h : Pn F G w g m a v css) (hc : ∀ c ∈ cs, Scal c) (hs : s.data.toList = encs cs) (hw : wst cs = true) (hi : iniE 3 cs = 0) (hb : css.length + 8 * s.size + 100 ≤ 140737488355328) :
    Calls Tryz.prog 80 #[.pointer (some ⟨g, 0, none⟩), .string s, .int .u8 3, .int .u8 (if wh then 0 else 1)] w fun e w' => e = .returned (.tuple #[]) ∧ Wr F G g m a v w (css ++ identP a wh 0 cs) w' := by
  have HWS := Lib.hid (WouldStart_any s cs w h.tb.u8 hc hs)
  rw [hw] at HWS
  obtain ⟨wi, hwi⟩ : ∃ x : Int, x = (if wh then 0 else 1) := ⟨_, rfl⟩
  rw [← hwi]
  have HWI := Lib.hid hwi
  have HC := Lib.hid hc
  have HS := Lib.hid hs
  clear hwi hc hs
  go_enter Tryz.func80, Tryz.ntmps80
  go_upto_block 0 with fail
  go_cut [9] from 17 to 96 (fun t9 wr => t9 = .int .u8 0 ∧ Kp (fun _ => False) w wr)
  case first =>
    obtain ⟨l, hl⟩ : ∃ l, encs cs = l := ⟨_, rfl⟩
    have HIB : Hid (iniB 3 l = 0) := Lib.hid (by rw [← hl, iniB_eq 3 cs (by decide) hw HC.out, hi])
    obtain ⟨b0, r0, hb0, hd0⟩ : ∃ b0 r0, l = b0 :: r0 ∧ ¬ (48 ≤ b0.toNat ∧ b0.toNat ≤ 57) := by
      cases cs with
      | nil => cases hw
      | cons c r =>
        obtain ⟨b0, r0, e0, p0, q0⟩ := head_b c (HC.out c (by simp)) r
        refine ⟨b0, r0, by rw [← hl, e0], ?_⟩
        have hcd : ¬ (48 ≤ c ∧ c ≤ 57) := by
          simp only [wst, Bool.or_eq_true, Bool.and_eq_true, decide_eq_true_eq] at hw
          rcases hw with h | h
          · intro q; simp [nameSt, starts] at h; omega
          · omega
        by_cases q : c < 128
        · have := (p0 q).1; omega
        · have := q0 (by omega); omega
    obtain rfl : s = bstr l := by rw [← hl, ← HS.out]; rfl
    clear hl hi hw h hb HC HS
    subst hb0
    have hz0 : (bstr (b0 :: r0)).size = r0.length + 1 := by rw [bstr_size]; rfl
    have z1 : (0 : Int) < ((bstr (b0 :: r0)).size : Int) := by omega
    have e0 : (bstr (b0 :: r0))[0]'(by omega) = b0 := rfl
    by_cases hE : b0.toNat = 101 ∨ b0.toNat = 69
    case neg =>
      have q1 : (((b0.toNat : Nat) : Int) == 101) = false := by simp; omega
      have q2 : (((b0.toNat : Nat) : Int) == 69) = false := by simp; omega
      by_cases p1 : b0.toNat < 48
      · have t1 : ¬ (48 : Int) ≤ ((b0.toNat : Nat) : Int) := by omega
        go_wp2_with (go_at_call 112; (refine HWS.out.mono ?_); rintro e w1 ⟨rfl, hk1⟩)
        go_meet
        exact ⟨rfl, hk1⟩
      · have t1 : (48 : Int) ≤ ((b0.toNat : Nat) : Int) := by omega
        have t2 : ¬ ((b0.toNat : Nat) : Int) ≤ 57 := by omega
        go_wp2_with (go_at_call 112; (refine HWS.out.mono ?_); rintro e w1 ⟨rfl, hk1⟩)
        go_meet
        exact ⟨rfl, hk1⟩
    have t1 : (48 : Int) ≤ ((b0.toNat : Nat) : Int) := by omega
    have t2 : ¬ ((b0.toNat : Nat) : Int) ≤ 57 := by omega
    obtain ⟨f1, hf1⟩ : ∃ f : Bool, (((b0.toNat : Nat) : Int) == 101) = f := ⟨_, rfl⟩
    have hf2 : f1 = false → (((b0.toNat : Nat) : Int) == 69) = true := by intro h; rw [h] at hf1; simp at hf1 ⊢; omega
    cases f1
    · have hf3 := hf2 rfl
      clear hf2
      go_wp2_with (go_at_call 112; (refine HWS.out.mono ?_); rintro e w1 ⟨rfl, hk1⟩)
      go_meet
      exact ⟨rfl, hk1⟩
    · clear hf2
      go_wp2_with (go_at_call 112; (refine HWS.out.mono ?_); rintro e w1 ⟨rfl, hk1⟩)
      go_meet
      exact ⟨rfl, hk1⟩
  obtain ⟨rfl, hk1⟩ := hcut
  generalize hwc : wc = w1 at *
  clear hwc
  go_wp2
  refine wp_scope_out 0 rfl ?_
  go_wp2
  go_loopw [11, 12] (fun t _ wr => ∃ i, FsS s w1 t wr i) (fun t _ _ => s.size - (match t with | .int _ x => x.toNat | _ => 0))
  case atStart => exact ⟨0, rfl, by omega, by simp, rfl⟩
  case round =>
    obtain ⟨i, hF⟩ := hrel
    obtain ⟨rfl, hle, hok, rfl⟩ := hF
    have HOK := Lib.hid hok
    clear hok
    by_cases q : i < s.size
    · obtain ⟨b, hb0⟩ : ∃ b, s[i]'q = b := ⟨_, rfl⟩
      have HB0 := Lib.hid hb0
      have hbl := b.toNat_lt
      go_upto_region 24 with fail
      clear hb0
      go_cut [97] (fun t wr => t = .bool (!okB b) ∧ w1 = wr)
      case first =>
        by_cases q2 : 128 ≤ b.toNat
        · have hO : okB b = false := by simp [okB]; omega
          have HO := Lib.hid hO
          clear hO
          go_wp2
          go_meet
          exact ⟨by rw [HO.out]; rfl, rfl⟩
        · have hlt : b.toNat < 128 := by omega
          cases hn : nameCo (b.toNat : Int)
          all_goals
            have hO : okB b = nameCo (b.toNat : Int) := by simp [okB, hlt]
            have HO := Lib.hid hO
            have HN := Lib.hid hn
            clear hO hn q2
            go_wp2_with (go_at_call 113; (with_reducible refine (IsNameContinue_any ..).mono ?_); rw [HN.out]; rintro e w9 ⟨rfl, rfl⟩)
            go_meet
            exact ⟨by rw [HO.out, HN.out]; simp <;> omega, rfl⟩
      case rest =>
        obtain ⟨rfl, rfl⟩ := hcut
        cases hO : okB b
        · go_wp2
          apply wp_goto
          refine ⟨rfl, ?_⟩
          clear hO HB0 HOK hbl
          go_wp2
          have hG1 : G ≤ w1.heap.size := by have := h.pr.ge; have := hk1.size; omega
          have h0 : IdS F G g m a wh 0 v css s cs w w1.heap.size (w1.iter s 0) [] cs v [] := by
            refine ⟨rfl, World.iter_heap w1 s 0, hk1.size, ?_, ?_, by simp, by simp⟩
            · rw [List.append_nil]; exact h.kp (hk1.alloc _)
            · exact ⟨(hk1.alloc _).mono fun _ _ f => f.elim, fun _ hk => .inl hk⟩
          have H0 := Lib.hid h0
          clear h0
          go_loopw [13] (fun _ wr => ∃ dn rs v1 acc, IdS F G g m a wh 0 v css s cs w w1.heap.size wr dn rs v1 acc) (fun _ wr => s.size - wr.iterPos w1.heap.size)
          case atStart => exact ⟨_, _, _, _, H0.out⟩
          case round =>
            obtain ⟨dn, rs, v1, acc, hI⟩ := hrel
            match rs, hI with
            | [], hI =>
              obtain ⟨hnx, hw⟩ := hI.stop HS.out
              have HW := Lib.hid hw
              clear hw hI
              go_wp2
              go_end0
              exact ⟨rfl, HW.out⟩
            | c :: r, hI =>
              have hcc : Scal c := HC.out c (by rw [← hI.eq]; simp)
              obtain ⟨hnx, hz, hx⟩ := hI.step HS.out hcc
              obtain ⟨p2, s2, i2, n2, g2⟩ := hI.go hG1 ((encs dn).length + (encd c).length)
              generalize wr.iterAt w1.heap.size s ((encs dn).length + (encd c).length) = wr2 at *
              obtain ⟨y3, y5, y6, y7, y9, y15, yf⟩ := p2.pr.f
              have HI := Lib.hid hI
              have HX := Lib.hid hx
              have HZ := Lib.hid hz
              have HP := Lib.hid p2
              have HS2 := Lib.hid s2
              have HI2 := Lib.hid i2
              have HN2 := Lib.hid n2
              have HCC := Lib.hid hcc
              clear hI hx hz p2 s2 i2 n2 hcc y3 y5 y6 y9 y15 yf
              generalize hpos : (encs dn).length = pos at *
              have HPOS := Lib.hid hpos
              clear hpos
              obtain ⟨kk, hkk⟩ : ∃ x : Int, x = if dn = [] then escF a 0 c else esck a c := ⟨_, rfl⟩
              have HKK := Lib.hid hkk
              clear hkk
              go_upto_region 30 with fail
              go_cut [121] (fun t wr => t = .bool (a && decide (128 ≤ c)) ∧ wr2 = wr)
              case first =>
                cases a
                · go_wp2
                  go_meet
                  exact ⟨rfl, rfl⟩
                · by_cases q : 128 ≤ c
                  · go_wp2
                    go_meet
                    exact ⟨by simp [q], rfl⟩
                  · have q' : c < 128 := by omega
                    go_wp2
                    go_meet
                    exact ⟨by simp [q], rfl⟩
              case rest =>
                obtain ⟨rfl, rfl⟩ := hcut
                go_upto_if 121 with fail
                go_cut [15] (fun t wr => t = .int .u8 kk ∧ wr2 = wr)
                case first =>
                  cases q0 : (a && decide (128 ≤ c))
                  · cases q1 : decide (c = 13 ∨ c = 10 ∨ c = 12 ∨ c = 65279)
                    · have hk0 : hexK a c = false := by unfold hexK; rw [q0, q1]; rfl
                      simp at q1
                      have b1 : (c == 13) = false := by simp; omega
                      have b2 : (c == 10) = false := by simp; omega
                      have b3 : (c == 12) = false := by simp; omega
                      have b4 : (c == 65279) = false := by simp; omega
                      clear q1
                      by_cases hd : dn = []
                      · have hkk2 : kk = escF a 0 c := by rw [HKK.out, if_pos hd]
                        have bz : ((pos : Int) == 0) = true := by have := HPOS.out; rw [hd] at this; simp [encs_nil] at this; simp; omega
                        cases hn : nameCo c
                        all_goals
                          have hkk3 : kk = if (0 : Int) ≠ 0 then 0 else if nameCo c = true then 0 else 1 := by rw [hkk2, escF, if_neg (by rw [hk0]; decide)]
                          have HK3 := Lib.hid hkk3
                          have HN := Lib.hid hn
                          clear hn hkk3 hkk2 hk0 hd
                          go_wp2_with (go_at_call 113; (with_reducible refine (IsNameContinue_any ..).mono ?_); rw [HN.out]; rintro e w9 ⟨rfl, rfl⟩)
                          go_meet
                          exact ⟨by rw [HK3.out]; simp [HN.out], rfl⟩
                      · have hkk2 : kk = esck a c := by rw [HKK.out, if_neg hd]
                        have bz : ((pos : Int) == 0) = false := by
                          have := HPOS.out
                          have := encs_len dn
                          have : 0 < dn.length := List.length_pos_iff.2 hd
                          simp; omega
                        cases hn : nameCo c
                        all_goals
                          have hkk3 : kk = if nameCo c = true then 0 else 1 := by rw [hkk2, esck, if_neg (by rw [hk0]; decide)]
                          have HK3 := Lib.hid hkk3
                          have HN := Lib.hid hn
                          clear hn hkk3 hkk2 hk0 hd
                          go_wp2_with (go_at_call 113; (with_reducible refine (IsNameContinue_any ..).mono ?_); rw [HN.out]; rintro e w9 ⟨rfl, rfl⟩)
                          go_meet
                          exact ⟨by rw [HK3.out]; simp [HN.out], rfl⟩
                    · have hk0 : hexK a c = true := by unfold hexK; rw [q0, q1]; rfl
                      have HK3 : Hid (kk = 2) := Lib.hid (by rw [HKK.out]; split <;> simp [escF, esck, hk0])
                      simp at q1
                      clear hk0
                      rcases q1 with rfl | rfl | rfl | rfl
                      all_goals
                        go_wp2
                        go_meet
                        exact ⟨by rw [HK3.out], rfl⟩
                  · have hk0 : hexK a c = true := by unfold hexK; rw [q0]; rfl
                    have HK3 : Hid (kk = 2) := Lib.hid (by rw [HKK.out]; split <;> simp [escF, esck, hk0])
                    clear hk0
                    go_wp2
                    go_meet
                    exact ⟨by rw [HK3.out], rfl⟩
                case rest =>
                  obtain ⟨rfl, rfl⟩ := hcut
                  have HKR : Hid (kk = 0 ∨ kk = 1 ∨ kk = 2) := Lib.hid (by
                    rw [HKK.out]
                    split
                    · unfold escF; repeat' split
                      all_goals simp
                    · unfold esck; repeat' split
                      all_goals simp)
                  have HRL := Lib.hid (runeLen_encd c HCC.out)
                  have HL4 := Lib.hid (encd_len c)
                  generalize hLL : (encd c).length = L at *
                  have HLL := Lib.hid hLL
                  clear hLL y7
                  go_upto_region 38 with fail
                  go_cut [16] (fun t wr => t = .bool (wh && decide (kk ≠ 0) && r.isEmpty) ∧ wr2 = wr)
                  case first =>
                    have hle : pos + L ≤ s.size := by have := HZ.out; omega
                    cases wh
                    · have hwi : wi = 1 := HWI.out
                      subst hwi
                      go_wp2
                      go_meet
                      exact ⟨rfl, rfl⟩
                    · have hwi : wi = 0 := HWI.out
                      subst hwi
                      rcases HKR.out with e | e | e
                      · subst e
                        go_wp2
                        go_meet
                        exact ⟨rfl, rfl⟩
                      all_goals
                        subst e
                        cases r with
                        | nil =>
                          have hq : (((pos : Int) + (L : Int)) == (s.size : Int)) = true := by have := HZ.out; simp [encs_nil] at this; simp; omega
                          go_wp2_with (go_at_call 114; (with_reducible refine (Tryz.utf8_RuneLen ..).mono ?_); rw [HRL.out]; rintro e w9 ⟨rfl, rfl⟩)
                          go_meet
                          exact ⟨rfl, rfl⟩
                        | cons d r =>
                          have hq : (((pos : Int) + (L : Int)) == (s.size : Int)) = false := by
                            have := HZ.out
                            have := encs_len (d :: r)
                            simp only [List.length_cons] at this
                            simp; omega
                          go_wp2_with (go_at_call 114; (with_reducible refine (Tryz.utf8_RuneLen ..).mono ?_); rw [HRL.out]; rintro e w9 ⟨rfl, rfl⟩)
                          go_meet
                          exact ⟨rfl, rfl⟩
                  case rest =>
                    obtain ⟨rfl, rfl⟩ := hcut
                    have hlep : pos ≤ s.size := by have := HZ.out; omega
                    have HKV : Hid (kk = 0 ∨ kk = 2 ∨ kk = 1 ∧ (hexv c < 0 ∨ 48 ≤ c ∧ c ≤ 57)) := Lib.hid (kk_ok a 0 c kk dn HKK.out (.inl rfl))
                    have hbb : Hid ((css ++ acc).length + 100 ≤ 140737488355328) := Lib.hid (by
                      have := HI.out.ln
                      have := HPOS.out
                      rw [List.length_append]; omega)
                    generalize hls : (wh && decide (kk ≠ 0) && r.isEmpty) = lst at *
                    have HLS := Lib.hid hls
                    clear hls
                    go_wp2_with (go_at_call 101; (with_reducible refine (Escape_any F G g m a _ _ _ c _ (encs r) _ _ HP.out HCC.out HKV.out hbb.out HX.out).mono ?_); rintro e w9 ⟨rfl, hw9⟩)
                    obtain ⟨v2, acc2, hN⟩ := HI.out.next HCC.out kk HKK.out HS2.out (by rw [HPOS.out, HLL.out]; exact HI2.out) HN2.out g2 (by rw [HLS.out]; exact hw9)
                    refine ⟨⟨dn ++ [c], r, v2, acc2, hN⟩, ?_⟩
                    simp only [World.iterPos, hN.it, HI.out.it, encs_app, encs_cons, encs_nil, List.append_nil, List.length_append]
                    have h1 := HPOS.out
                    have h2 := HLL.out
                    have h3 := HL4.out
                    have h4 := HZ.out
                    omega
        · have hk := take_next s i q b HB0.out HOK.out hO
          have HK := Lib.hid hk
          clear hk
          go_wp2
          refine ⟨⟨i + 1, ?_, by omega, HK.out, rfl⟩, ?_⟩
          · simp
          · simp; omega
    · have hall : ∀ b ∈ encs cs, okB b = true := by
        intro b hb
        have := HOK.out
        rw [List.take_of_length_le (by simp; omega), HS.out] at this
        exact this b hb
      have hP := h.kp hk1
      obtain ⟨y3, y5, y6, y7, y9, y15, yf⟩ := hP.pr.f
      have hown := hP.pr.own
      have hge := hP.pr.ge
      have hlt := hP.pr.lt
      have HE := Lib.hid (identP_ok a wh cs HC.out hall)
      have HP := Lib.hid hP
      clear hall hP
      have hbb : css.length + s.size ≤ 140737488355328 := by omega
      go_wp2_with (at_builtin; refine app_str (.tmp 102) (.tmp 103) rfl rfl G v css rfl hown s rfl hbb hge ?_)
      intro v' w2 hA
      obtain ⟨A', n', cp', rfl⟩ := hA.form
      obtain ⟨c15, d15⟩ := HP.out.pr.at1 hA
      obtain ⟨P2, S2⟩ := HP.out.pr.app hA
      have hw2 := Wr.of h P2 (S2.pre hk1)
      have HW2 := Lib.hid hw2
      clear P2 S2 hw2 hown hge y3 y5 y6 y7 y9 y15 yf hA
      go_wp2
      rw [Exit.jump_ret]
      simp only [Exit.then]
      have hh := HW2.out
      rw [HS.out, ← HE.out] at hh
      exact bodyPost_ret (results_none rfl _ _ _) rfl ⟨rfl, hh⟩

theorem ident_d21 (F : Go.Stop.Interp) (G g : Nat) (m a wh : Bool) (v : Value) (css : List UInt8) (s : ByteArray) (cs : List Int) (w : World) (h : Pn F G w g m a v css) (hc : ∀ c ∈ cs, Scal c) (hs : s.data.toList = encs cs) (hw : wst cs = false) (hb : css.length + 8 * s.size + 100 ≤ 140737488355328) :
    Calls Tryz.prog 80 #[.pointer (some ⟨g, 0, none⟩), .string s, .int .u8 2, .int .u8 (if wh then 0 else 1)] w fun e w' => e = .returned (.tuple #[]) ∧ Wr F G g m a v w (css ++ identP a wh 1 cs) w' := by
  have HWS := Lib.hid (WouldStart_any s cs w h.tb.u8 hc hs)
  rw [hw] at HWS
  obtain ⟨wi, hwi⟩ : ∃ x : Int, x = (if wh then 0 else 1) := ⟨_, rfl⟩
  rw [← hwi]
  have HWI := Lib.hid hwi
  have HC := Lib.hid hc
  have HS := Lib.hid hs
  clear hwi hc hs
  go_enter Tryz.func80, Tryz.ntmps80
  go_upto_block 0 with fail
  go_cut [9] from 17 to 96 (fun t9 wr => t9 = .int .u8 1 ∧ Kp (fun _ => False) w wr)
  case first =>
    go_wp2_with (go_at_call 112; (refine HWS.out.mono ?_); rintro e w1 ⟨rfl, hk1⟩)
    go_meet
    exact ⟨rfl, hk1⟩
  obtain ⟨rfl, hk1⟩ := hcut
  generalize hwc : wc = w1 at *
  clear hwc
  go_wp2
  have hG1 : G ≤ w1.heap.size := by have := h.pr.ge; have := hk1.size; omega
  have h0 : IdS F G g m a wh 1 v css s cs w w1.heap.size (w1.iter s 0) [] cs v [] := by
    refine ⟨rfl, World.iter_heap w1 s 0, hk1.size, ?_, ?_, by simp, by simp⟩
    · rw [List.append_nil]; exact h.kp (hk1.alloc _)
    · exact ⟨(hk1.alloc _).mono fun _ _ f => f.elim, fun _ hk => .inl hk⟩
  have H0 := Lib.hid h0
  clear h0
  go_loopw [13] (fun _ wr => ∃ dn rs v1 acc, IdS F G g m a wh 1 v css s cs w w1.heap.size wr dn rs v1 acc) (fun _ wr => s.size - wr.iterPos w1.heap.size)
  case atStart => exact ⟨_, _, _, _, H0.out⟩
  case round =>
    obtain ⟨dn, rs, v1, acc, hI⟩ := hrel
    match rs, hI with
    | [], hI =>
      obtain ⟨hnx, hw⟩ := hI.stop HS.out
      have HW := Lib.hid hw
      clear hw hI
      go_wp2
      go_end0
      exact ⟨rfl, HW.out⟩
    | c :: r, hI =>
      have hcc : Scal c := HC.out c (by rw [← hI.eq]; simp)
      obtain ⟨hnx, hz, hx⟩ := hI.step HS.out hcc
      obtain ⟨p2, s2, i2, n2, g2⟩ := hI.go hG1 ((encs dn).length + (encd c).length)
      generalize wr.iterAt w1.heap.size s ((encs dn).length + (encd c).length) = wr2 at *
      obtain ⟨y3, y5, y6, y7, y9, y15, yf⟩ := p2.pr.f
      have HI := Lib.hid hI
      have HX := Lib.hid hx
      have HZ := Lib.hid hz
      have HP := Lib.hid p2
      have HS2 := Lib.hid s2
      have HI2 := Lib.hid i2
      have HN2 := Lib.hid n2
      have HCC := Lib.hid hcc
      clear hI hx hz p2 s2 i2 n2 hcc y3 y5 y6 y9 y15 yf
      generalize hpos : (encs dn).length = pos at *
      have HPOS := Lib.hid hpos
      clear hpos
      obtain ⟨kk, hkk⟩ : ∃ x : Int, x = if dn = [] then escF a 1 c else esck a c := ⟨_, rfl⟩
      have HKK := Lib.hid hkk
      clear hkk
      go_upto_region 30 with fail
      go_cut [121] (fun t wr => t = .bool (a && decide (128 ≤ c)) ∧ wr2 = wr)
      case first =>
        cases a
        · go_wp2
          go_meet
          exact ⟨rfl, rfl⟩
        · by_cases q : 128 ≤ c
          · go_wp2
            go_meet
            exact ⟨by simp [q], rfl⟩
          · have q' : c < 128 := by omega
            go_wp2
            go_meet
            exact ⟨by simp [q], rfl⟩
      case rest =>
        obtain ⟨rfl, rfl⟩ := hcut
        go_upto_if 121 with fail
        go_cut [15] (fun t wr => t = .int .u8 kk ∧ wr2 = wr)
        case first =>
          cases q0 : (a && decide (128 ≤ c))
          · cases q1 : decide (c = 13 ∨ c = 10 ∨ c = 12 ∨ c = 65279)
            · have hk0 : hexK a c = false := by unfold hexK; rw [q0, q1]; rfl
              simp at q1
              have b1 : (c == 13) = false := by simp; omega
              have b2 : (c == 10) = false := by simp; omega
              have b3 : (c == 12) = false := by simp; omega
              have b4 : (c == 65279) = false := by simp; omega
              clear q1
              by_cases hd : dn = []
              · have hkk2 : kk = escF a 1 c := by rw [HKK.out, if_pos hd]
                have bz : ((pos : Int) == 0) = true := by have := HPOS.out; rw [hd] at this; simp [encs_nil] at this; simp; omega
                cases hn : nameCo c
                all_goals
                  have hkk3 : kk = if (1 : Int) ≠ 0 then 1 else if nameCo c = true then 0 else 1 := by rw [hkk2, escF, if_neg (by rw [hk0]; decide)]
                  have HK3 := Lib.hid hkk3
                  have HN := Lib.hid hn
                  clear hn hkk3 hkk2 hk0 hd
                  go_wp2_with (go_at_call 113; (with_reducible refine (IsNameContinue_any ..).mono ?_); rw [HN.out]; rintro e w9 ⟨rfl, rfl⟩)
                  go_meet
                  exact ⟨by rw [HK3.out]; simp [HN.out], rfl⟩
              · have hkk2 : kk = esck a c := by rw [HKK.out, if_neg hd]
                have bz : ((pos : Int) == 0) = false := by
                  have := HPOS.out
                  have := encs_len dn
                  have : 0 < dn.length := List.length_pos_iff.2 hd
                  simp; omega
                cases hn : nameCo c
                all_goals
                  have hkk3 : kk = if nameCo c = true then 0 else 1 := by rw [hkk2, esck, if_neg (by rw [hk0]; decide)]
                  have HK3 := Lib.hid hkk3
                  have HN := Lib.hid hn
                  clear hn hkk3 hkk2 hk0 hd
                  go_wp2_with (go_at_call 113; (with_reducible refine (IsNameContinue_any ..).mono ?_); rw [HN.out]; rintro e w9 ⟨rfl, rfl⟩)
                  go_meet
                  exact ⟨by rw [HK3.out]; simp [HN.out], rfl⟩
            · have hk0 : hexK a c = true := by unfold hexK; rw [q0, q1]; rfl
              have HK3 : Hid (kk = 2) := Lib.hid (by rw [HKK.out]; split <;> simp [escF, esck, hk0])
              simp at q1
              clear hk0
              rcases q1 with rfl | rfl | rfl | rfl
              all_goals
                go_wp2
                go_meet
                exact ⟨by rw [HK3.out], rfl⟩
          · have hk0 : hexK a c = true := by unfold hexK; rw [q0]; rfl
            have HK3 : Hid (kk = 2) := Lib.hid (by rw [HKK.out]; split <;> simp [escF, esck, hk0])
            clear hk0
            go_wp2
            go_meet
            exact ⟨by rw [HK3.out], rfl⟩
        case rest =>
          obtain ⟨rfl, rfl⟩ := hcut
          have HKR : Hid (kk = 0 ∨ kk = 1 ∨ kk = 2) := Lib.hid (by
            rw [HKK.out]
            split
            · unfold escF; repeat' split
              all_goals simp
            · unfold esck; repeat' split
              all_goals simp)
          have HRL := Lib.hid (runeLen_encd c HCC.out)
          have HL4 := Lib.hid (encd_len c)
          generalize hLL : (encd c).length = L at *
          have HLL := Lib.hid hLL
          clear hLL y7
          go_upto_region 38 with fail
          go_cut [16] (fun t wr => t = .bool (wh && decide (kk ≠ 0) && r.isEmpty) ∧ wr2 = wr)
          case first =>
            have hle : pos + L ≤ s.size := by have := HZ.out; omega
            cases wh
            · have hwi : wi = 1 := HWI.out
              subst hwi
              go_wp2
              go_meet
              exact ⟨rfl, rfl⟩
            · have hwi : wi = 0 := HWI.out
              subst hwi
              rcases HKR.out with e | e | e
              · subst e
                go_wp2
                go_meet
                exact ⟨rfl, rfl⟩
              all_goals
                subst e
                cases r with
                | nil =>
                  have hq : (((pos : Int) + (L : Int)) == (s.size : Int)) = true := by have := HZ.out; simp [encs_nil] at this; simp; omega
                  go_wp2_with (go_at_call 114; (with_reducible refine (Tryz.utf8_RuneLen ..).mono ?_); rw [HRL.out]; rintro e w9 ⟨rfl, rfl⟩)
                  go_meet
                  exact ⟨rfl, rfl⟩
                | cons d r =>
                  have hq : (((pos : Int) + (L : Int)) == (s.size : Int)) = false := by
                    have := HZ.out
                    have := encs_len (d :: r)
                    simp only [List.length_cons] at this
                    simp; omega
                  go_wp2_with (go_at_call 114; (with_reducible refine (Tryz.utf8_RuneLen ..).mono ?_); rw [HRL.out]; rintro e w9 ⟨rfl, rfl⟩)
                  go_meet
                  exact ⟨rfl, rfl⟩
          case rest =>
            obtain ⟨rfl, rfl⟩ := hcut
            have hlep : pos ≤ s.size := by have := HZ.out; omega
            have HKV : Hid (kk = 0 ∨ kk = 2 ∨ kk = 1 ∧ (hexv c < 0 ∨ 48 ≤ c ∧ c ≤ 57)) := Lib.hid (kk_ok a 1 c kk dn HKK.out (.inr (.inr ⟨rfl, fun hd => wst_first (r := r) (by have := HI.out.eq; rw [hd] at this; rw [← List.nil_append (c :: r), this]; exact hw)⟩)))
            have hbb : Hid ((css ++ acc).length + 100 ≤ 140737488355328) := Lib.hid (by
              have := HI.out.ln
              have := HPOS.out
              rw [List.length_append]; omega)
            generalize hls : (wh && decide (kk ≠ 0) && r.isEmpty) = lst at *
            have HLS := Lib.hid hls
            clear hls
            go_wp2_with (go_at_call 101; (with_reducible refine (Escape_any F G g m a _ _ _ c _ (encs r) _ _ HP.out HCC.out HKV.out hbb.out HX.out).mono ?_); rintro e w9 ⟨rfl, hw9⟩)
            obtain ⟨v2, acc2, hN⟩ := HI.out.next HCC.out kk HKK.out HS2.out (by rw [HPOS.out, HLL.out]; exact HI2.out) HN2.out g2 (by rw [HLS.out]; exact hw9)
            refine ⟨⟨dn ++ [c], r, v2, acc2, hN⟩, ?_⟩
            simp only [World.iterPos, hN.it, HI.out.it, encs_app, encs_cons, encs_nil, List.append_nil, List.length_append]
            have h1 := HPOS.out
            have h2 := HLL.out
            have h3 := HL4.out
            have h4 := HZ.out
            omega

theorem ident_d31 (F : Go.Stop.Interp) (G g : Nat) (m a wh : Bool) (v : Value) (css : List UInt8) (s : ByteArray) (cs : List Int) (w : World) (h : Pn F G w g m a v css) (hc : ∀ c ∈ cs, Scal c) (hs : s.data.toList = encs cs) (hw : wst cs = false) (hb : css.length + 8 * s.size + 100 ≤ 140737488355328) :
    Calls Tryz.prog 80 #[.pointer (some ⟨g, 0, none⟩), .string s, .int .u8 3, .int .u8 (if wh then 0 else 1)] w fun e w' => e = .returned (.tuple #[]) ∧ Wr F G g m a v w (css ++ identP a wh 1 cs) w' := by
  have HWS := Lib.hid (WouldStart_any s cs w h.tb.u8 hc hs)
  rw [hw] at HWS
  obtain ⟨wi, hwi⟩ : ∃ x : Int, x = (if wh then 0 else 1) := ⟨_, rfl⟩
  rw [← hwi]
  have HWI := Lib.hid hwi
  have HC := Lib.hid hc
  have HS := Lib.hid hs
  clear hwi hc hs
  go_enter Tryz.func80, Tryz.ntmps80
  go_upto_block 0 with fail
  go_cut [9] from 17 to 96 (fun t9 wr => t9 = .int .u8 1 ∧ Kp (fun _ => False) w wr)
  case first =>
    go_wp2_with (go_at_call 112; (refine HWS.out.mono ?_); rintro e w1 ⟨rfl, hk1⟩)
    go_meet
    exact ⟨rfl, hk1⟩
  obtain ⟨rfl, hk1⟩ := hcut
  generalize hwc : wc = w1 at *
  clear hwc
  go_wp2
  have hG1 : G ≤ w1.heap.size := by have := h.pr.ge; have := hk1.size; omega
  have h0 : IdS F G g m a wh 1 v css s cs w w1.heap.size (w1.iter s 0) [] cs v [] := by
    refine ⟨rfl, World.iter_heap w1 s 0, hk1.size, ?_, ?_, by simp, by simp⟩
    · rw [List.append_nil]; exact h.kp (hk1.alloc _)
    · exact ⟨(hk1.alloc _).mono fun _ _ f => f.elim, fun _ hk => .inl hk⟩
  have H0 := Lib.hid h0
  clear h0
  go_loopw [13] (fun _ wr => ∃ dn rs v1 acc, IdS F G g m a wh 1 v css s cs w w1.heap.size wr dn rs v1 acc) (fun _ wr => s.size - wr.iterPos w1.heap.size)
  case atStart => exact ⟨_, _, _, _, H0.out⟩
  case round =>
    obtain ⟨dn, rs, v1, acc, hI⟩ := hrel
    match rs, hI with
    | [], hI =>
      obtain ⟨hnx, hw⟩ := hI.stop HS.out
      have HW := Lib.hid hw
      clear hw hI
      go_wp2
      go_end0
      exact ⟨rfl, HW.out⟩
    | c :: r, hI =>
      have hcc : Scal c := HC.out c (by rw [← hI.eq]; simp)
      obtain ⟨hnx, hz, hx⟩ := hI.step HS.out hcc
      obtain ⟨p2, s2, i2, n2, g2⟩ := hI.go hG1 ((encs dn).length + (encd c).length)
      generalize wr.iterAt w1.heap.size s ((encs dn).length + (encd c).length) = wr2 at *
      obtain ⟨y3, y5, y6, y7, y9, y15, yf⟩ := p2.pr.f
      have HI := Lib.hid hI
      have HX := Lib.hid hx
      have HZ := Lib.hid hz
      have HP := Lib.hid p2
      have HS2 := Lib.hid s2
      have HI2 := Lib.hid i2
      have HN2 := Lib.hid n2
      have HCC := Lib.hid hcc
      clear hI hx hz p2 s2 i2 n2 hcc y3 y5 y6 y9 y15 yf
      generalize hpos : (encs dn).length = pos at *
      have HPOS := Lib.hid hpos
      clear hpos
      obtain ⟨kk, hkk⟩ : ∃ x : Int, x = if dn = [] then escF a 1 c else esck a c := ⟨_, rfl⟩
      have HKK := Lib.hid hkk
      clear hkk
      go_upto_region 30 with fail
      go_cut [121] (fun t wr => t = .bool (a && decide (128 ≤ c)) ∧ wr2 = wr)
      case first =>
        cases a
        · go_wp2
          go_meet
          exact ⟨rfl, rfl⟩
        · by_cases q : 128 ≤ c
          · go_wp2
            go_meet
            exact ⟨by simp [q], rfl⟩
          · have q' : c < 128 := by omega
            go_wp2
            go_meet
            exact ⟨by simp [q], rfl⟩
      case rest =>
        obtain ⟨rfl, rfl⟩ := hcut
        go_upto_if 121 with fail
        go_cut [15] (fun t wr => t = .int .u8 kk ∧ wr2 = wr)
        case first =>
          cases q0 : (a && decide (128 ≤ c))
          · cases q1 : decide (c = 13 ∨ c = 10 ∨ c = 12 ∨ c = 65279)
            · have hk0 : hexK a c = false := by unfold hexK; rw [q0, q1]; rfl
              simp at q1
              have b1 : (c == 13) = false := by simp; omega
              have b2 : (c == 10) = false := by simp; omega
              have b3 : (c == 12) = false := by simp; omega
              have b4 : (c == 65279) = false := by simp; omega
              clear q1
              by_cases hd : dn = []
              · have hkk2 : kk = escF a 1 c := by rw [HKK.out, if_pos hd]
                have bz : ((pos : Int) == 0) = true := by have := HPOS.out; rw [hd] at this; simp [encs_nil] at this; simp; omega
                cases hn : nameCo c
                all_goals
                  have hkk3 : kk = if (1 : Int) ≠ 0 then 1 else if nameCo c = true then 0 else 1 := by rw [hkk2, escF, if_neg (by rw [hk0]; decide)]
                  have HK3 := Lib.hid hkk3
                  have HN := Lib.hid hn
                  clear hn hkk3 hkk2 hk0 hd
                  go_wp2_with (go_at_call 113; (with_reducible refine (IsNameContinue_any ..).mono ?_); rw [HN.out]; rintro e w9 ⟨rfl, rfl⟩)
                  go_meet
                  exact ⟨by rw [HK3.out]; simp [HN.out], rfl⟩
              · have hkk2 : kk = esck a c := by rw [HKK.out, if_neg hd]
                have bz : ((pos : Int) == 0) = false := by
                  have := HPOS.out
                  have := encs_len dn
                  have : 0 < dn.length := List.length_pos_iff.2 hd
                  simp; omega
                cases hn : nameCo c
                all_goals
                  have hkk3 : kk = if nameCo c = true then 0 else 1 := by rw [hkk2, esck, if_neg (by rw [hk0]; decide)]
                  have HK3 := Lib.hid hkk3
                  have HN := Lib.hid hn
                  clear hn hkk3 hkk2 hk0 hd
                  go_wp2_with (go_at_call 113; (with_reducible refine (IsNameContinue_any ..).mono ?_); rw [HN.out]; rintro e w9 ⟨rfl, rfl⟩)
                  go_meet
                  exact ⟨by rw [HK3.out]; simp [HN.out], rfl⟩
            · have hk0 : hexK a c = true := by unfold hexK; rw [q0, q1]; rfl
              have HK3 : Hid (kk = 2) := Lib.hid (by rw [HKK.out]; split <;> simp [escF, esck, hk0])
              simp at q1
              clear hk0
              rcases q1 with rfl | rfl | rfl | rfl
              all_goals
                go_wp2
                go_meet
                exact ⟨by rw [HK3.out], rfl⟩
          · have hk0 : hexK a c = true := by unfold hexK; rw [q0]; rfl
            have HK3 : Hid (kk = 2) := Lib.hid (by rw [HKK.out]; split <;> simp [escF, esck, hk0])
            clear hk0
            go_wp2
            go_meet
            exact ⟨by rw [HK3.out], rfl⟩
        case rest =>
          obtain ⟨rfl, rfl⟩ := hcut
          have HKR : Hid (kk = 0 ∨ kk = 1 ∨ kk = 2) := Lib.hid (by
            rw [HKK.out]
            split
            · unfold escF; repeat' split
              all_goals simp
            · unfold esck; repeat' split
              all_goals simp)
          have HRL := Lib.hid (runeLen_encd c HCC.out)
          have HL4 := Lib.hid (encd_len c)
          generalize hLL : (encd c).length = L at *
          have HLL := Lib.hid hLL
          clear hLL y7
          go_upto_region 38 with fail
          go_cut [16] (fun t wr => t = .bool (wh && decide (kk ≠ 0) && r.isEmpty) ∧ wr2 = wr)
          case first =>
            have hle : pos + L ≤ s.size := by have := HZ.out; omega
            cases wh
            · have hwi : wi = 1 := HWI.out
              subst hwi
              go_wp2
              go_meet
              exact ⟨rfl, rfl⟩
            · have hwi : wi = 0 := HWI.out
              subst hwi
              rcases HKR.out with e | e | e
              · subst e
                go_wp2
                go_meet
                exact ⟨rfl, rfl⟩
              all_goals
                subst e
                cases r with
                | nil =>
                  have hq : (((pos : Int) + (L : Int)) == (s.size : Int)) = true := by have := HZ.out; simp [encs_nil] at this; simp; omega
                  go_wp2_with (go_at_call 114; (with_reducible refine (Tryz.utf8_RuneLen ..).mono ?_); rw [HRL.out]; rintro e w9 ⟨rfl, rfl⟩)
                  go_meet
                  exact ⟨rfl, rfl⟩
                | cons d r =>
                  have hq : (((pos : Int) + (L : Int)) == (s.size : Int)) = false := by
                    have := HZ.out
                    have := encs_len (d :: r)
                    simp only [List.length_cons] at this
                    simp; omega
                  go_wp2_with (go_at_call 114; (with_reducible refine (Tryz.utf8_RuneLen ..).mono ?_); rw [HRL.out]; rintro e w9 ⟨rfl, rfl⟩)
                  go_meet
                  exact ⟨rfl, rfl⟩
          case rest =>
            obtain ⟨rfl, rfl⟩ := hcut
            have hlep : pos ≤ s.size := by have := HZ.out; omega
            have HKV : Hid (kk = 0 ∨ kk = 2 ∨ kk = 1 ∧ (hexv c < 0 ∨ 48 ≤ c ∧ c ≤ 57)) := Lib.hid (kk_ok a 1 c kk dn HKK.out (.inr (.inr ⟨rfl, fun hd => wst_first (r := r) (by have := HI.out.eq; rw [hd] at this; rw [← List.nil_append (c :: r), this]; exact hw)⟩)))
            have hbb : Hid ((css ++ acc).length + 100 ≤ 140737488355328) := Lib.hid (by
              have := HI.out.ln
              have := HPOS.out
              rw [List.length_append]; omega)
            generalize hls : (wh && decide (kk ≠ 0) && r.isEmpty) = lst at *
            have HLS := Lib.hid hls
            clear hls
            go_wp2_with (go_at_call 101; (with_reducible refine (Escape_any F G g m a _ _ _ c _ (encs r) _ _ HP.out HCC.out HKV.out hbb.out HX.out).mono ?_); rintro e w9 ⟨rfl, hw9⟩)
            obtain ⟨v2, acc2, hN⟩ := HI.out.next HCC.out kk HKK.out HS2.out (by rw [HPOS.out, HLL.out]; exact HI2.out) HN2.out g2 (by rw [HLS.out]; exact hw9)
            refine ⟨⟨dn ++ [c], r, v2, acc2, hN⟩, ?_⟩
            simp only [World.iterPos, hN.it, HI.out.it, encs_app, encs_cons, encs_nil, List.append_nil, List.length_append]
            have h1 := HPOS.out
            have h2 := HLL.out
            have h3 := HL4.out
            have h4 := HZ.out
            omega

theorem ident_d22 (F : Go.Stop.Interp) (G g : Nat) (m a wh : Bool) (v : Value) (css : List UInt8) (s : ByteArray) (cs : List Int) (w : World) (h : Pn F G w g m a v css) (hc : ∀ c ∈ cs, Scal c) (hs : s.data.toList = encs cs) (hw : wst cs = true) (hi : iniE 2 cs = 2) (hb : css.length + 8 * s.size + 100 ≤ 140737488355328) :
    Calls Tryz.prog 80 #[.pointer (some ⟨g, 0, none⟩), .string s, .int .u8 2, .int .u8 (if wh then 0 else 1)] w fun e w' => e = .returned (.tuple #[]) ∧ Wr F G g m a v w (css ++ identP a wh 2 cs) w' := by
  have HWS := Lib.hid (WouldStart_any s cs w h.tb.u8 hc hs)
  rw [hw] at HWS
  obtain ⟨wi, hwi⟩ : ∃ x : Int, x = (if wh then 0 else 1) := ⟨_, rfl⟩
  rw [← hwi]
  have HWI := Lib.hid hwi
  have HC := Lib.hid hc
  have HS := Lib.hid hs
  clear hwi hc hs
  go_enter Tryz.func80, Tryz.ntmps80
  have HLF : Hid (LfP s 2) := Lib.hid (lf_cs s cs 2 hw hi HC.out HS.out)
  go_upto_block 0 with fail
  go_cut [9] from 17 to 96 (fun t9 wr => t9 = .int .u8 2 ∧ Kp (fun _ => False) w wr)
  case first =>
    clear hi hw h hb HC HS
    cases HLF.out with
    | d2 b0 b1 h e0 e1 hE p =>
      have z1 : (0 : Int) < (s.size : Int) := by omega
      have z2 : (2 : Int) ≤ (s.size : Int) := by omega
      have u1 : (48 : Int) ≤ ((b1.toNat : Nat) : Int) := by omega
      have u2 : ((b1.toNat : Nat) : Int) ≤ 57 := by omega
      have t1 : (48 : Int) ≤ ((b0.toNat : Nat) : Int) := by omega
      have t2 : ¬ ((b0.toNat : Nat) : Int) ≤ 57 := by omega
      obtain ⟨f1, hf1⟩ : ∃ f : Bool, (((b0.toNat : Nat) : Int) == 101) = f := ⟨_, rfl⟩
      have hf2 : f1 = false → (((b0.toNat : Nat) : Int) == 69) = true := by intro h; rw [h] at hf1; simp at hf1 ⊢; omega
      clear hE
      cases f1
      · have hf3 := hf2 rfl
        clear hf2
        go_wp2_with (go_at_call 112; (refine HWS.out.mono ?_); rintro e w1 ⟨rfl, hk1⟩)
        go_meet
        exact ⟨rfl, hk1⟩
      · clear hf2
        go_wp2_with (go_at_call 112; (refine HWS.out.mono ?_); rintro e w1 ⟨rfl, hk1⟩)
        go_meet
        exact ⟨rfl, hk1⟩
    | g3 b0 b1 b2 h e0 e1 e2 hE p q =>
      have z1 : (0 : Int) < (s.size : Int) := by omega
      have z2 : (2 : Int) ≤ (s.size : Int) := by omega
      have z3 : (3 : Int) ≤ (s.size : Int) := by omega
      have u5 : (((b1.toNat : Nat) : Int) == 45) = true := by simp; omega
      have u6 : ¬ (48 : Int) ≤ ((b1.toNat : Nat) : Int) := by omega
      have v1 : (48 : Int) ≤ ((b2.toNat : Nat) : Int) := by omega
      have v2 : ((b2.toNat : Nat) : Int) ≤ 57 := by omega
      have t1 : (48 : Int) ≤ ((b0.toNat : Nat) : Int) := by omega
      have t2 : ¬ ((b0.toNat : Nat) : Int) ≤ 57 := by omega
      obtain ⟨f1, hf1⟩ : ∃ f : Bool, (((b0.toNat : Nat) : Int) == 101) = f := ⟨_, rfl⟩
      have hf2 : f1 = false → (((b0.toNat : Nat) : Int) == 69) = true := by intro h; rw [h] at hf1; simp at hf1 ⊢; omega
      clear hE
      cases f1
      · have hf3 := hf2 rfl
        clear hf2
        go_wp2_with (go_at_call 112; (refine HWS.out.mono ?_); rintro e w1 ⟨rfl, hk1⟩)
        go_meet
        exact ⟨rfl, hk1⟩
      · clear hf2
        go_wp2_with (go_at_call 112; (refine HWS.out.mono ?_); rintro e w1 ⟨rfl, hk1⟩)
        go_meet
        exact ⟨rfl, hk1⟩
  obtain ⟨rfl, hk1⟩ := hcut
  generalize hwc : wc = w1 at *
  clear hwc HLF
  go_wp2
  have hG1 : G ≤ w1.heap.size := by have := h.pr.ge; have := hk1.size; omega
  have h0 : IdS F G g m a wh 2 v css s cs w w1.heap.size (w1.iter s 0) [] cs v [] := by
    refine ⟨rfl, World.iter_heap w1 s 0, hk1.size, ?_, ?_, by simp, by simp⟩
    · rw [List.append_nil]; exact h.kp (hk1.alloc _)
    · exact ⟨(hk1.alloc _).mono fun _ _ f => f.elim, fun _ hk => .inl hk⟩
  have H0 := Lib.hid h0
  clear h0
  go_loopw [13] (fun _ wr => ∃ dn rs v1 acc, IdS F G g m a wh 2 v css s cs w w1.heap.size wr dn rs v1 acc) (fun _ wr => s.size - wr.iterPos w1.heap.size)
  case atStart => exact ⟨_, _, _, _, H0.out⟩
  case round =>
    obtain ⟨dn, rs, v1, acc, hI⟩ := hrel
    match rs, hI with
    | [], hI =>
      obtain ⟨hnx, hw⟩ := hI.stop HS.out
      have HW := Lib.hid hw
      clear hw hI
      go_wp2
      go_end0
      exact ⟨rfl, HW.out⟩
    | c :: r, hI =>
      have hcc : Scal c := HC.out c (by rw [← hI.eq]; simp)
      obtain ⟨hnx, hz, hx⟩ := hI.step HS.out hcc
      obtain ⟨p2, s2, i2, n2, g2⟩ := hI.go hG1 ((encs dn).length + (encd c).length)
      generalize wr.iterAt w1.heap.size s ((encs dn).length + (encd c).length) = wr2 at *
      obtain ⟨y3, y5, y6, y7, y9, y15, yf⟩ := p2.pr.f
      have HI := Lib.hid hI
      have HX := Lib.hid hx
      have HZ := Lib.hid hz
      have HP := Lib.hid p2
      have HS2 := Lib.hid s2
      have HI2 := Lib.hid i2
      have HN2 := Lib.hid n2
      have HCC := Lib.hid hcc
      clear hI hx hz p2 s2 i2 n2 hcc y3 y5 y6 y9 y15 yf
      generalize hpos : (encs dn).length = pos at *
      have HPOS := Lib.hid hpos
      clear hpos
      obtain ⟨kk, hkk⟩ : ∃ x : Int, x = if dn = [] then escF a 2 c else esck a c := ⟨_, rfl⟩
      have HKK := Lib.hid hkk
      clear hkk
      go_upto_region 30 with fail
      go_cut [121] (fun t wr => t = .bool (a && decide (128 ≤ c)) ∧ wr2 = wr)
      case first =>
        cases a
        · go_wp2
          go_meet
          exact ⟨rfl, rfl⟩
        · by_cases q : 128 ≤ c
          · go_wp2
            go_meet
            exact ⟨by simp [q], rfl⟩
          · have q' : c < 128 := by omega
            go_wp2
            go_meet
            exact ⟨by simp [q], rfl⟩
      case rest =>
        obtain ⟨rfl, rfl⟩ := hcut
        go_upto_if 121 with fail
        go_cut [15] (fun t wr => t = .int .u8 kk ∧ wr2 = wr)
        case first =>
          cases q0 : (a && decide (128 ≤ c))
          · cases q1 : decide (c = 13 ∨ c = 10 ∨ c = 12 ∨ c = 65279)
            · have hk0 : hexK a c = false := by unfold hexK; rw [q0, q1]; rfl
              simp at q1
              have b1 : (c == 13) = false := by simp; omega
              have b2 : (c == 10) = false := by simp; omega
              have b3 : (c == 12) = false := by simp; omega
              have b4 : (c == 65279) = false := by simp; omega
              clear q1
              by_cases hd : dn = []
              · have hkk2 : kk = escF a 2 c := by rw [HKK.out, if_pos hd]
                have bz : ((pos : Int) == 0) = true := by have := HPOS.out; rw [hd] at this; simp [encs_nil] at this; simp; omega
                cases hn : nameCo c
                all_goals
                  have hkk3 : kk = if (2 : Int) ≠ 0 then 2 else if nameCo c = true then 0 else 1 := by rw [hkk2, escF, if_neg (by rw [hk0]; decide)]
                  have HK3 := Lib.hid hkk3
                  have HN := Lib.hid hn
                  clear hn hkk3 hkk2 hk0 hd
                  go_wp2_with (go_at_call 113; (with_reducible refine (IsNameContinue_any ..).mono ?_); rw [HN.out]; rintro e w9 ⟨rfl, rfl⟩)
                  go_meet
                  exact ⟨by rw [HK3.out]; simp [HN.out], rfl⟩
              · have hkk2 : kk = esck a c := by rw [HKK.out, if_neg hd]
                have bz : ((pos : Int) == 0) = false := by
                  have := HPOS.out
                  have := encs_len dn
                  have : 0 < dn.length := List.length_pos_iff.2 hd
                  simp; omega
                cases hn : nameCo c
                all_goals
                  have hkk3 : kk = if nameCo c = true then 0 else 1 := by rw [hkk2, esck, if_neg (by rw [hk0]; decide)]
                  have HK3 := Lib.hid hkk3
                  have HN := Lib.hid hn
                  clear hn hkk3 hkk2 hk0 hd
                  go_wp2_with (go_at_call 113; (with_reducible refine (IsNameContinue_any ..).mono ?_); rw [HN.out]; rintro e w9 ⟨rfl, rfl⟩)
                  go_meet
                  exact ⟨by rw [HK3.out]; simp [HN.out], rfl⟩
            · have hk0 : hexK a c = true := by unfold hexK; rw [q0, q1]; rfl
              have HK3 : Hid (kk = 2) := Lib.hid (by rw [HKK.out]; split <;> simp [escF, esck, hk0])
              simp at q1
              clear hk0
              rcases q1 with rfl | rfl | rfl | rfl
              all_goals
                go_wp2
                go_meet
                exact ⟨by rw [HK3.out], rfl⟩
          · have hk0 : hexK a c = true := by unfold hexK; rw [q0]; rfl
            have HK3 : Hid (kk = 2) := Lib.hid (by rw [HKK.out]; split <;> simp [escF, esck, hk0])
            clear hk0
            go_wp2
            go_meet
            exact ⟨by rw [HK3.out], rfl⟩
        case rest =>
          obtain ⟨rfl, rfl⟩ := hcut
          have HKR : Hid (kk = 0 ∨ kk = 1 ∨ kk = 2) := Lib.hid (by
            rw [HKK.out]
            split
            · unfold escF; repeat' split
              all_goals simp
            · unfold esck; repeat' split
              all_goals simp)
          have HRL := Lib.hid (runeLen_encd c HCC.out)
          have HL4 := Lib.hid (encd_len c)
          generalize hLL : (encd c).length = L at *
          have HLL := Lib.hid hLL
          clear hLL y7
          go_upto_region 38 with fail
          go_cut [16] (fun t wr => t = .bool (wh && decide (kk ≠ 0) && r.isEmpty) ∧ wr2 = wr)
          case first =>
            have hle : pos + L ≤ s.size := by have := HZ.out; omega
            cases wh
            · have hwi : wi = 1 := HWI.out
              subst hwi
              go_wp2
              go_meet
              exact ⟨rfl, rfl⟩
            · have hwi : wi = 0 := HWI.out
              subst hwi
              rcases HKR.out with e | e | e
              · subst e
                go_wp2
                go_meet
                exact ⟨rfl, rfl⟩
              all_goals
                subst e
                cases r with
                | nil =>
                  have hq : (((pos : Int) + (L : Int)) == (s.size : Int)) = true := by have := HZ.out; simp [encs_nil] at this; simp; omega
                  go_wp2_with (go_at_call 114; (with_reducible refine (Tryz.utf8_RuneLen ..).mono ?_); rw [HRL.out]; rintro e w9 ⟨rfl, rfl⟩)
                  go_meet
                  exact ⟨rfl, rfl⟩
                | cons d r =>
                  have hq : (((pos : Int) + (L : Int)) == (s.size : Int)) = false := by
                    have := HZ.out
                    have := encs_len (d :: r)
                    simp only [List.length_cons] at this
                    simp; omega
                  go_wp2_with (go_at_call 114; (with_reducible refine (Tryz.utf8_RuneLen ..).mono ?_); rw [HRL.out]; rintro e w9 ⟨rfl, rfl⟩)
                  go_meet
                  exact ⟨rfl, rfl⟩
          case rest =>
            obtain ⟨rfl, rfl⟩ := hcut
            have hlep : pos ≤ s.size := by have := HZ.out; omega
            have HKV : Hid (kk = 0 ∨ kk = 2 ∨ kk = 1 ∧ (hexv c < 0 ∨ 48 ≤ c ∧ c ≤ 57)) := Lib.hid (kk_ok a 2 c kk dn HKK.out (.inr (.inl rfl)))
            have hbb : Hid ((css ++ acc).length + 100 ≤ 140737488355328) := Lib.hid (by
              have := HI.out.ln
              have := HPOS.out
              rw [List.length_append]; omega)
            generalize hls : (wh && decide (kk ≠ 0) && r.isEmpty) = lst at *
            have HLS := Lib.hid hls
            clear hls
            go_wp2_with (go_at_call 101; (with_reducible refine (Escape_any F G g m a _ _ _ c _ (encs r) _ _ HP.out HCC.out HKV.out hbb.out HX.out).mono ?_); rintro e w9 ⟨rfl, hw9⟩)
            obtain ⟨v2, acc2, hN⟩ := HI.out.next HCC.out kk HKK.out HS2.out (by rw [HPOS.out, HLL.out]; exact HI2.out) HN2.out g2 (by rw [HLS.out]; exact hw9)
            refine ⟨⟨dn ++ [c], r, v2, acc2, hN⟩, ?_⟩
            simp only [World.iterPos, hN.it, HI.out.it, encs_app, encs_cons, encs_nil, List.append_nil, List.length_append]
            have h1 := HPOS.out
            have h2 := HLL.out
            have h3 := HL4.out
            have h4 := HZ.out
            omega

end Go.Proofs.YtkaejhdncohgpaaGreatFmt
