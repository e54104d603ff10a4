/- The reference's lexer: peek, take, newline, spaces, digits: what each does to its place in the text, told as the list of what is left; The reference's lexer: spaces, digits, escape, name; The reference's lexer: escape, name; The reference's lexer: name. -/
import Derived.Test.YtkaejhdncohgpaaGreatFmtL1
import Derived.Test.YtkaejhdncohgpaaGreatFmtM1
import Derived.Deep.LoopGhost
/- The reference's lexer: peek, take, newline, spaces, digits: what each does to its place in the text, told as the list of what is left. Condition: the text has at most 2^47 bytes. -/
namespace Go.Proofs.YtkaejhdncohgpaaGreatFmt
set_option linter.all false
open Go.RowKit
set_option maxRecDepth 100000

/-- A lexer at block g: its text s, its place p, its comments v, open or not. -/
def Lx (w : World) (g : Nat) (s : ByteArray) (p : Nat) (v : Value) (op : Bool) : Prop := w.heap[g]? = some (.cells #[.string s, .int .i64 p, v, .bool op] 149 (0, 0))
/-- What is left of a text from a place on. -/
def lft (s : ByteArray) (p : Nat) : List (Int × Nat) := its (s.data.toList.drop p)

theorem its_step (s : ByteArray) (q : Nat) (hq : q ≤ s.size) : q + (raL (s.data.toList.drop q)).2 ≤ s.size ∧ lft s (q + (raL (s.data.toList.drop q)).2) = (lft s q).tail ∧ (raL (s.data.toList.drop q)).1 = pk (lft s q) 0 := by
  by_cases h : q < s.size
  · have hne : s.data.toList.drop q ≠ [] := by rw [drop_at s q h]; simp
    have hw := raL_wid _ hne
    refine ⟨?_, ?_, ?_⟩
    · have := hw.2; simp at this; omega
    · unfold lft; rw [its_cons _ hne, List.tail_cons, List.drop_drop]
    · unfold lft pk; rw [its_cons _ hne]; rfl
  · rw [drop_end s q (by omega)]
    refine ⟨by simp [raL]; omega, ?_, ?_⟩
    · simp only [raL, Nat.add_zero, lft]; rw [drop_end s q (by omega)]; rfl
    · unfold lft; rw [drop_end s q (by omega)]; rfl
theorem pk_drop (l : List (Int × Nat)) (j : Nat) : pk (l.drop j) 0 = pk l j := by simp [pk]
theorem pk_tail (l : List (Int × Nat)) (j : Nat) : pk l.tail j = pk l (j + 1) := by cases l <;> simp [pk]
theorem pk_range (s : ByteArray) (q k : Nat) (hq : q ≤ s.size) : -2 ≤ pk (lft s q) k ∧ pk (lft s q) k ≤ 1114111 := by
  induction k generalizing q with
  | zero => rw [← (its_step s q hq).2.2]; exact raL_range _
  | succ k ih =>
    have := its_step s q hq
    rw [← pk_tail, ← this.2.1]; exact ih _ this.1

theorem Lx.f {w : World} {g : Nat} {s : ByteArray} {p : Nat} {v : Value} {op : Bool} (h : Lx w g s p v op) : w.cell? ⟨g, 0, none⟩ = some (.string s) ∧ w.cell? ⟨g, 1, none⟩ = some (.int .i64 p) ∧ w.cell? ⟨g, 2, none⟩ = some v ∧ w.cell? ⟨g, 3, none⟩ = some (.bool op) ∧ w.frozen? ⟨g, 1, none⟩ = false ∧ w.frozen? ⟨g, 2, none⟩ = false ∧ w.frozen? ⟨g, 3, none⟩ = false := by
  unfold Lx at h
  simp [World.cell?, World.frozen?, h]
theorem Lx.lt {w : World} {g : Nat} {s : ByteArray} {p : Nat} {v : Value} {op : Bool} (h : Lx w g s p v op) : g < w.heap.size := (Array.getElem?_eq_some_iff.1 h).1
theorem Lx.drewN {w : World} {g : Nat} {s : ByteArray} {p : Nat} {v : Value} {op : Bool} (h : Lx w g s p v op) (n : Nat) : Lx (w.drewN n) g s p v op := h
theorem Lx.at {w : World} {g : Nat} {s : ByteArray} {p : Nat} {v : Value} {op : Bool} (h : Lx w g s p v op) (q : Nat) (x : Value) (hx : x = .int .i64 q) : Lx (w.setCell ⟨g, 1, none⟩ x) g s q v op := by
  subst hx
  unfold Lx at *
  simp [World.setCell, Array.getElem?_modify, h]
theorem Lx.opn {w : World} {g : Nat} {s : ByteArray} {p : Nat} {v : Value} {op : Bool} (h : Lx w g s p v op) (b : Bool) : Lx (w.setCell ⟨g, 3, none⟩ (.bool b)) g s p v b := by
  unfold Lx at *
  simp [World.setCell, Array.getElem?_modify, h]
theorem Lx.kp {w w' : World} {g : Nat} {s : ByteArray} {p : Nat} {v : Value} {op : Bool} (h : Lx w g s p v op) {S : Nat → Prop} (hk : Kp S w w') (hg : ¬ S g) : Lx w' g s p v op := by
  unfold Lx at *
  rw [hk.block g (Lx.lt h) hg, h]

theorem peek_any (g : Nat) (s : ByteArray) (p : Nat) (v : Value) (op : Bool) (k : Nat) (w : World) (h : Lx w g s p v op) (hs : s.size ≤ 140737488355328) (hp : p ≤ s.size) (hk : k ≤ 1000) :
    Calls Tryz.prog 56 #[.pointer (some ⟨g, 0, none⟩), .int .i64 k] w fun e w' => e = .returned (.int .i64 (pk (lft s p) k)) ∧ w' = w := by
  obtain ⟨f0, f1, f2, f3, _, _, _⟩ := h.f
  go_enter Tryz.func56, Tryz.ntmps56
  go_wp2
  go_loop [5, 15] (fun a i => ∃ j q : Nat, j ≤ k ∧ i = .int .i64 j ∧ a = .int .i64 q ∧ q ≤ s.size ∧ Hid (lft s q = (lft s p).drop j)) (fun _ i => k - (intOf i).toNat)
  case atStart => exact ⟨0, p, by omega, rfl, rfl, hp, Lib.hid (by simp)⟩
  case round =>
    obtain ⟨j, q, hj, rfl, rfl, hq, HL⟩ := hrel
    have hst := its_step s q hq
    have hst1 := hst.1
    have HS := Lib.hid hst.2
    clear hst
    by_cases hlt : j < k
    · go_wp2_with (go_at_call 31; refine (runeAt_any _ _ _ hs (by omega)).mono ?_; rintro e w' ⟨rfl, rfl⟩)
      go_round
      case rel => exact ⟨j + 1, q + (raL (s.data.toList.drop q)).2, by omega, by go_num, by go_num, hst1, Lib.hid (by rw [HS.out.1, HL.out, List.tail_drop])⟩
      case measure => simp [intOf]; omega
    · obtain rfl : j = k := by omega
      go_wp2_with (go_at_call 31; refine (runeAt_any _ _ _ hs (by omega)).mono ?_; rintro e w' ⟨rfl, rfl⟩)
      go_ret
      exact ⟨ret_int (by rw [HS.out.2, HL.out, pk_drop]), rfl⟩

/-- A lexer at block g with the list l left, in a world that is w but for block g. -/
def Lo (g : Nat) (s : ByteArray) (v : Value) (w : World) (l : Its) (op : Bool) (w' : World) : Prop := ∃ p', p' ≤ s.size ∧ lft s p' = l ∧ Lx w' g s p' v op ∧ Kp (fun k => k = g) w w'
theorem Lo.mk {g : Nat} {s : ByteArray} {v : Value} {w : World} {l : Its} {op : Bool} {w' : World} (p' : Nat) (h1 : p' ≤ s.size) (h2 : lft s p' = l) (h3 : Lx w' g s p' v op) (h4 : Kp (fun k => k = g) w w') : Lo g s v w l op w' := ⟨p', h1, h2, h3, h4⟩

theorem Kp.cell {g : Nat} {a b : World} (h : Kp (fun k => k = g) a b) (o : Nat) (u : Value) : Kp (fun k => k = g) a (b.setCell ⟨g, o, none⟩ u) := h.setCell (.inl rfl) u

theorem take_any (g : Nat) (s : ByteArray) (p : Nat) (v : Value) (op : Bool) (w : World) (h : Lx w g s p v op) (hs : s.size ≤ 140737488355328) (hp : p ≤ s.size) :
    Calls Tryz.prog 57 #[.pointer (some ⟨g, 0, none⟩)] w fun e w' => e = .returned (.int .i64 (pk (lft s p) 0)) ∧ Lo g s v w (lft s p).tail op w' := by
  obtain ⟨f0, f1, f2, f3, z1, _, _⟩ := h.f
  have hst := its_step s p hp
  have hst1 := hst.1
  have HS := Lib.hid hst.2
  clear hst
  go_enter Tryz.func57, Tryz.ntmps57
  go_wp2
  go_quiet ((go_at_call 31; exact Calls.quiet_of_same ((runeAt_any _ _ _ hs (by omega)).mono fun _ _ h => h)))
  go_wp2
  go_ret
  exact ⟨ret_int HS.out.2, Lo.mk _ hst1 HS.out.1 (Lx.at (h.drewN _) (p + (raL (s.data.toList.drop p)).2) _ (by go_num)) (((Kp.refl _ _).drewN _).cell _ _)⟩

theorem newline_any (g : Nat) (s : ByteArray) (p : Nat) (v : Value) (op : Bool) (w : World) (h : Lx w g s p v op) (hs : s.size ≤ 140737488355328) (hp : p ≤ s.size) :
    Calls Tryz.prog 88 #[.pointer (some ⟨g, 0, none⟩)] w fun e w' => e = .returned (.tuple #[]) ∧ Lo g s v w (newlM (lft s p)) op w' := by
  go_enter Tryz.func88, Tryz.ntmps88
  go_wp2_with fail
  refine (take_any g s p v op _ h hs hp).mono ?_
  rintro e w1 ⟨rfl, p1, hp1, hl1, hx1, hk1⟩
  by_cases h13 : pk (lft s p) 0 = 13
  · have b1 : (pk (lft s p) 0 == 13) = true := by simp [h13]
    have H13 := Lib.hid h13
    have HL := Lib.hid hl1
    clear h13 hl1
    go_wp2_with fail
    refine (peek_any g s p1 v op 0 _ hx1 hs hp1 (by omega)).mono ?_
    rintro e w2 ⟨rfl, rfl⟩
    by_cases h10 : pk (lft s p1) 0 = 10
    · have b2 : (pk (lft s p1) 0 == 10) = true := by simp [h10]
      have H10 := Lib.hid h10
      clear h10
      go_wp2_with fail
      refine (take_any g s p1 v op _ hx1 hs hp1).mono ?_
      rintro e w3 ⟨rfl, p2, hp2, hl2, hx2, hk2⟩
      have HL2 := Lib.hid hl2
      clear hl2
      go_wp2
      go_end0
      exact ⟨rfl, Lo.mk p2 hp2 (by rw [HL2.out, HL.out, newlM, if_pos ⟨H13.out, by rw [← HL.out]; exact H10.out⟩]) hx2 (hk1.trans hk2)⟩
    · have b2 : (pk (lft s p1) 0 == 10) = false := by simp [h10]
      have H10 := Lib.hid h10
      clear h10
      go_wp2
      go_end0
      exact ⟨rfl, Lo.mk p1 hp1 (by rw [HL.out, newlM, if_neg (by rintro ⟨_, h⟩; rw [← HL.out] at h; exact H10.out h)]) hx1 hk1⟩
  · have b1 : (pk (lft s p) 0 == 13) = false := by simp [h13]
    have H13 := Lib.hid h13
    have HL := Lib.hid hl1
    clear h13 hl1
    go_wp2
    go_end0
    exact ⟨rfl, Lo.mk p1 hp1 (by rw [HL.out, newlM, if_neg (by rintro ⟨h, _⟩; exact H13.out h)]) hx1 hk1⟩

end Go.Proofs.YtkaejhdncohgpaaGreatFmt

/- The reference's lexer: spaces, digits, escape, name. Condition: the text has at most 2^47 bytes. -/
namespace Go.Proofs.YtkaejhdncohgpaaGreatFmt
set_option linter.all false
open Go.RowKit
set_option maxRecDepth 100000

theorem spaces_any (g : Nat) (s : ByteArray) (p : Nat) (v : Value) (op : Bool) (w : World) (h : Lx w g s p v op) (hs : s.size ≤ 140737488355328) (hp : p ≤ s.size) :
    Calls Tryz.prog 59 #[.pointer (some ⟨g, 0, none⟩)] w fun e w' => e = .returned (.tuple #[]) ∧ Lo g s v w (spM (lft s p)) op w' := by
  have H := Lib.hid h
  clear h
  go_enter Tryz.func59, Tryz.ntmps59
  go_wp2
  go_loopg [] ((lft s p).length + 1) (fun k wr => ∃ q, q ≤ s.size ∧ Hid (Lx wr g s q v op) ∧ Hid (Kp (fun k => k = g) w wr) ∧ Hid ((lft s q).length < k) ∧ Hid (spM (lft s q) = spM (lft s p)))
  case atStart => exact ⟨p, hp, H, Lib.hid (Kp.refl _ _), Lib.hid (by omega), Lib.hid rfl⟩
  case round =>
    obtain ⟨q, hq, HX, HK, HN, HM⟩ := hrel
    by_cases hb : isSp (pk (lft s q) 0) = true
    · have hy := Lib.hid (spM_yes _ hb)
      go_wp2_with fail
      refine (peek_any g s q v op 0 _ HX.out hs hq (by omega)).mono ?_
      rintro e w2 ⟨rfl, rfl⟩
      go_wp2_with fail
      refine (isSpace_any _ _).mono ?_
      rintro e w2 ⟨rfl, rfl⟩
      go_wp2_with fail
      refine (take_any g s q v op _ HX.out hs hq).mono ?_
      rintro e w3 ⟨rfl, p2, hp2, hl2, hx2, hk2⟩
      have HL2 := Lib.hid hl2
      have HX2 := Lib.hid hx2
      have HK2 := Lib.hid (HK.out.trans hk2)
      clear hl2 hx2 hk2
      go_wp2
      go_roundg ((lft s q).length)
      case rel => exact ⟨p2, hp2, HX2, HK2, Lib.hid (by rw [HL2.out]; exact hy.out.2), Lib.hid (by rw [HL2.out, ← hy.out.1]; exact HM.out)⟩
      case measure => exact HN.out
    · have hb' : isSp (pk (lft s q) 0) = false := by simpa using hb
      have hy := Lib.hid (spM_no _ hb')
      clear hb
      go_wp2_with fail
      refine (peek_any g s q v op 0 _ HX.out hs hq (by omega)).mono ?_
      rintro e w2 ⟨rfl, rfl⟩
      go_wp2_with fail
      refine (isSpace_any _ _).mono ?_
      rintro e w2 ⟨rfl, rfl⟩
      go_wp2
      go_end0
      exact ⟨rfl, Lo.mk q hq (by rw [← HM.out, hy.out]) HX.out HK.out⟩

theorem digits_any (g : Nat) (s : ByteArray) (p : Nat) (v : Value) (op : Bool) (w : World) (h : Lx w g s p v op) (hs : s.size ≤ 140737488355328) (hp : p ≤ s.size) :
    Calls Tryz.prog 91 #[.pointer (some ⟨g, 0, none⟩)] w fun e w' => e = .returned (.tuple #[]) ∧ Lo g s v w (digM (lft s p)) op w' := by
  have H := Lib.hid h
  clear h
  go_enter Tryz.func91, Tryz.ntmps91
  go_wp2
  go_loopg [] ((lft s p).length + 1) (fun k wr => ∃ q, q ≤ s.size ∧ Hid (Lx wr g s q v op) ∧ Hid (Kp (fun k => k = g) w wr) ∧ Hid ((lft s q).length < k) ∧ Hid (digM (lft s q) = digM (lft s p)))
  case atStart => exact ⟨p, hp, H, Lib.hid (Kp.refl _ _), Lib.hid (by omega), Lib.hid rfl⟩
  case round =>
    obtain ⟨q, hq, HX, HK, HN, HM⟩ := hrel
    by_cases hb : isDig (pk (lft s q) 0) = true
    · have hy := Lib.hid (digM_yes _ hb)
      go_wp2_with fail
      refine (peek_any g s q v op 0 _ HX.out hs hq (by omega)).mono ?_
      rintro e w2 ⟨rfl, rfl⟩
      go_wp2_with fail
      refine (isDigit_any _ _).mono ?_
      rintro e w2 ⟨rfl, rfl⟩
      go_wp2_with fail
      refine (take_any g s q v op _ HX.out hs hq).mono ?_
      rintro e w3 ⟨rfl, p2, hp2, hl2, hx2, hk2⟩
      have HL2 := Lib.hid hl2
      have HX2 := Lib.hid hx2
      have HK2 := Lib.hid (HK.out.trans hk2)
      clear hl2 hx2 hk2
      go_wp2
      go_roundg ((lft s q).length)
      case rel => exact ⟨p2, hp2, HX2, HK2, Lib.hid (by rw [HL2.out]; exact hy.out.2), Lib.hid (by rw [HL2.out, ← hy.out.1]; exact HM.out)⟩
      case measure => exact HN.out
    · have hb' : isDig (pk (lft s q) 0) = false := by simpa using hb
      have hy := Lib.hid (digM_no _ hb')
      clear hb
      go_wp2_with fail
      refine (peek_any g s q v op 0 _ HX.out hs hq (by omega)).mono ?_
      rintro e w2 ⟨rfl, rfl⟩
      go_wp2_with fail
      refine (isDigit_any _ _).mono ?_
      rintro e w2 ⟨rfl, rfl⟩
      go_wp2
      go_end0
      exact ⟨rfl, Lo.mk q hq (by rw [← HM.out, hy.out]) HX.out HK.out⟩

end Go.Proofs.YtkaejhdncohgpaaGreatFmt

/- The reference's lexer: escape, name. Condition: the text has at most 2^47 bytes. -/
namespace Go.Proofs.YtkaejhdncohgpaaGreatFmt
set_option linter.all false
open Go.RowKit
set_option maxRecDepth 100000

theorem hexM_step (n : Nat) (v : Int) (l : Its) (h : 0 ≤ hexv (pk l 0)) : hexM (n + 1) v l = hexM n (v * 16 + hexv (pk l 0)) l.tail := by simp [hexM, h]
theorem hexM_stop (n : Nat) (v : Int) (l : Its) (h : ¬ 0 ≤ hexv (pk l 0)) : hexM n v l = (v, l) := by cases n <;> simp [hexM, h]
theorem pow16 (i : Nat) (h : i ≤ 5) (v : Int) (x : Int) (hv : v < 16 ^ i) (hx : x ≤ 15) : v < 16777216 ∧ v * 16 + x < 16 ^ (i + 1) := by
  have : i = 0 ∨ i = 1 ∨ i = 2 ∨ i = 3 ∨ i = 4 ∨ i = 5 := by omega
  rcases this with rfl | rfl | rfl | rfl | rfl | rfl <;> simp at * <;> omega
theorem pow16' (i : Nat) (h : i ≤ 6) (v : Int) (hv : v < 16 ^ i) : v ≤ 16777216 := by
  have : i = 0 ∨ i = 1 ∨ i = 2 ∨ i = 3 ∨ i = 4 ∨ i = 5 ∨ i = 6 := by omega
  rcases this with rfl | rfl | rfl | rfl | rfl | rfl | rfl <;> simp at * <;> omega

/-- No hexadecimal digit behind the backslash. -/
theorem escape_plain (g : Nat) (s : ByteArray) (p : Nat) (v : Value) (op : Bool) (w : World) (h : Lx w g s p v op) (hs : s.size ≤ 140737488355328) (hp : p ≤ s.size) (hh : hexv (pk (lft s p) 0) < 0) :
    Calls Tryz.prog 69 #[.pointer (some ⟨g, 0, none⟩)] w fun e w' => e = .returned (.int .i64 (escM (lft s p)).1) ∧ Lo g s v w (escM (lft s p)).2.1 (op || (escM (lft s p)).2.2) w' := by
  have hr := pk_range s p 0 hp
  go_enter Tryz.func69, Tryz.ntmps69
  go_wp2_with fail
  refine (peek_any g s p v op 0 _ h hs hp (by omega)).mono ?_
  rintro e w2 ⟨rfl, rfl⟩
  go_wp2_with fail
  refine (hex_any _ _ (by omega) (by omega)).mono ?_
  rintro e w2 ⟨rfl, rfl⟩
  go_wp2_with fail
  refine (take_any g s p v op _ h hs hp).mono ?_
  rintro e w3 ⟨rfl, p2, hp2, hl2, hx2, hk2⟩
  have HL := Lib.hid hl2
  clear hl2
  obtain ⟨_, _, _, _, _, _, z3⟩ := hx2.f
  have c3 := hx2.f.2.2.2.1
  by_cases he : pk (lft s p) 0 = -1
  · have b1 : (pk (lft s p) 0 == -1) = true := by simp [he]
    have HE := Lib.hid he
    have HH := Lib.hid hh
    clear he hh hr
    go_wp2
    go_ret
    refine ⟨ret_int (by rw [escM, if_pos HH.out, if_pos HE.out]), Lo.mk p2 hp2 (by rw [HL.out, escM, if_pos HH.out, if_pos HE.out]) ?_ (hk2.cell _ _)⟩
    rw [escM, if_pos HH.out, if_pos HE.out]
    simpa using hx2.opn true
  · have b1 : (pk (lft s p) 0 == -1) = false := by simp [he]
    have HE := Lib.hid he
    have HH := Lib.hid hh
    clear he hh hr
    go_wp2
    go_ret
    refine ⟨ret_int (by rw [escM, if_pos HH.out, if_neg HE.out]), Lo.mk p2 hp2 (by rw [HL.out, escM, if_pos HH.out, if_neg HE.out]) ?_ hk2⟩
    rw [escM, if_pos HH.out, if_neg HE.out]
    simpa using hx2

/-- The loop's relation: i digits have been taken. -/
def EscR (g : Nat) (s : ByteArray) (p : Nat) (v : Value) (op : Bool) (w : World) (a b : Value) (wr : World) : Prop :=
  ∃ (i q : Nat) (x : Int), i ≤ 6 ∧ a = .int .i64 x ∧ b = .int .i64 i ∧ q ≤ s.size ∧ 0 ≤ x ∧ Hid (x < 16 ^ i) ∧ Hid (hexM 6 0 (lft s p) = hexM (6 - i) x (lft s q)) ∧ Hid (Lx wr g s q v op) ∧ Hid (Kp (fun k => k = g) w wr)

set_option maxHeartbeats 1000000 in
theorem escape_hex (g : Nat) (s : ByteArray) (p : Nat) (v : Value) (op : Bool) (w : World) (h : Lx w g s p v op) (hs : s.size ≤ 140737488355328) (hp : p ≤ s.size) (hh : ¬ hexv (pk (lft s p) 0) < 0) :
    Calls Tryz.prog 69 #[.pointer (some ⟨g, 0, none⟩)] w fun e w' => e = .returned (.int .i64 (escM (lft s p)).1) ∧ Lo g s v w (escM (lft s p)).2.1 (op || (escM (lft s p)).2.2) w' := by
  have hr := pk_range s p 0 hp
  have hE : escM (lft s p) = (let r := hexM 6 0 (lft s p)
    if isNl (pk r.2 0) then (fixM r.1, newlM r.2, true) else if isSp (pk r.2 0) then (fixM r.1, r.2.tail, false) else (fixM r.1, r.2, false)) := by rw [escM, if_neg hh]
  have HE := Lib.hid hE
  have H0 := Lib.hid h
  clear hE
  go_enter Tryz.func69, Tryz.ntmps69
  go_wp2_with fail
  refine (peek_any g s p v op 0 _ H0.out hs hp (by omega)).mono ?_
  rintro e w2 ⟨rfl, rfl⟩
  go_wp2_with fail
  refine (hex_any _ _ (by omega) (by omega)).mono ?_
  rintro e w2 ⟨rfl, rfl⟩
  clear hr h
  go_wp2
  go_loopw [4, 5] (fun a b wr => EscR g s p v op w2 a b wr) (fun _ b _ => 6 - (intOf b).toNat)
  case atStart => exact ⟨0, p, 0, by omega, rfl, rfl, hp, by omega, Lib.hid (by omega), Lib.hid rfl, H0, Lib.hid (Kp.refl _ _)⟩
  case round =>
    obtain ⟨i, q, x, hi, rfl, rfl, hq, hx0, HX, HM, HL, HK⟩ := hrel
    have hr := pk_range s q 0 hq
    have hv := hexv_range (pk (lft s q) 0)
    have hv2 := hv.2
    by_cases hc : i < 6 ∧ 0 ≤ hexv (pk (lft s q) 0)
    · obtain ⟨hlt, hd⟩ := hc
      have hb := pow16 i (by omega) x _ HX.out hv2
      have hb1 := hb.1
      have HB := Lib.hid hb.2
      have HS := Lib.hid (hexM_step (5 - i) x _ hd)
      clear hb hv hh
      go_wp2_with fail
      refine (peek_any g s q v op 0 _ HL.out hs hq (by omega)).mono ?_
      rintro e w3 ⟨rfl, rfl⟩
      go_wp2_with fail
      refine (hex_any _ _ (by omega) (by omega)).mono ?_
      rintro e w3 ⟨rfl, rfl⟩
      go_wp2_with fail
      refine (take_any g s q v op _ HL.out hs hq).mono ?_
      rintro e w4 ⟨rfl, p2, hp2, hl2, hx2, hk2⟩
      have HL2 := Lib.hid hl2
      have HX2 := Lib.hid hx2
      have HK2 := Lib.hid (HK.out.trans hk2)
      clear hl2 hx2 hk2
      go_wp2_with fail
      refine (hex_any _ _ (by omega) (by omega)).mono ?_
      rintro e w5 ⟨rfl, rfl⟩
      go_wp2
      go_roundw
      case rel => exact ⟨i + 1, p2, x * 16 + hexv (pk (lft s q) 0), by omega, rfl, by go_num, hp2, by omega, HB, Lib.hid (by rw [HM.out, HL2.out, ← show 5 - i = 6 - (i + 1) by omega, ← HS.out, show 5 - i + 1 = 6 - i by omega]), HX2, HK2⟩
      case measure => simp [intOf]; omega
    · have hx6 := pow16' i hi x HX.out
      have key : hexM 6 0 (lft s p) = (x, lft s q) := by
        rw [HM.out]
        by_cases hlt : i < 6
        · exact hexM_stop _ _ _ (fun h => hc ⟨hlt, h⟩)
        · rw [show 6 - i = 0 by omega, hexM]
      have KEY := Lib.hid key
      have c3 := HL.out.f.2.2.2.1
      have z3 := HL.out.f.2.2.2.2.2.2
      have hd : i < 6 → hexv (pk (lft s q) 0) < 0 := fun h => by
        by_cases h' : 0 ≤ hexv (pk (lft s q) 0)
        · exact absurd ⟨h, h'⟩ hc
        · omega
      clear hc key hv HX HM hh
      cases hn : isNl (pk (lft s q) 0) with
      | true =>
        have HN := Lib.hid hn
        by_cases hlt : i < 6
        all_goals
          try have hd' := hd hlt
          clear hd
          go_wp2_with (first | (go_at_call 56; refine (peek_any g s q v op 0 _ HL.out hs hq (by omega)).mono ?_; rintro e w3 ⟨rfl, rfl⟩) | (go_at_call 94; refine (hex_any _ _ (by omega) (by omega)).mono ?_; rintro e w3 ⟨rfl, rfl⟩) | (go_at_call 87; refine (isNewline_any _ _).mono ?_; rintro e w3 ⟨rfl, rfl⟩) | (go_at_call 58; refine (isSpace_any _ _).mono ?_; rintro e w3 ⟨rfl, rfl⟩))
          refine (newline_any g s q v true _ (by simpa using HL.out.opn true) hs hq).mono ?_
          rintro e w4 ⟨rfl, p2, hp2, hl2, hx2, hk2⟩
          have HL2 := Lib.hid hl2
          have HX2 := Lib.hid hx2
          have HK2 := Lib.hid ((HK.out.cell 3 (.bool true)).trans hk2)
          clear hl2 hx2 hk2
          go_wp2
          all_goals
            go_ret
            refine ⟨ret_int (by rw [HE.out]; simp only [KEY.out, HN.out, if_true]; unfold fixM; (try simp only [beq_iff_eq] at *); first | rw [if_pos (by omega)] | rw [if_neg (by omega)]), Lo.mk p2 hp2 (by rw [HE.out]; simp only [KEY.out, HN.out, if_true]; exact HL2.out) ?_ HK2.out⟩
            rw [HE.out]; simp only [KEY.out, HN.out, if_true, Bool.or_true]; exact HX2.out
      | false =>
        have HN := Lib.hid hn
        cases hp' : isSp (pk (lft s q) 0) with
        | true =>
          have HP := Lib.hid hp'
          by_cases hlt : i < 6
          all_goals
            try have hd' := hd hlt
            clear hd
            go_wp2_with (first | (go_at_call 56; refine (peek_any g s q v op 0 _ HL.out hs hq (by omega)).mono ?_; rintro e w3 ⟨rfl, rfl⟩) | (go_at_call 94; refine (hex_any _ _ (by omega) (by omega)).mono ?_; rintro e w3 ⟨rfl, rfl⟩) | (go_at_call 87; refine (isNewline_any _ _).mono ?_; rintro e w3 ⟨rfl, rfl⟩) | (go_at_call 58; refine (isSpace_any _ _).mono ?_; rintro e w3 ⟨rfl, rfl⟩))
            refine (take_any g s q v op _ HL.out hs hq).mono ?_
            rintro e w4 ⟨rfl, p2, hp2, hl2, hx2, hk2⟩
            have HL2 := Lib.hid hl2
            have HX2 := Lib.hid hx2
            have HK2 := Lib.hid (HK.out.trans hk2)
            clear hl2 hx2 hk2
            go_wp2
            all_goals
              go_ret
              refine ⟨ret_int (by rw [HE.out]; simp only [KEY.out, HN.out, HP.out, if_true, Bool.false_eq_true, if_false]; unfold fixM; (try simp only [beq_iff_eq] at *); first | rw [if_pos (by omega)] | rw [if_neg (by omega)]), Lo.mk p2 hp2 (by rw [HE.out]; simp only [KEY.out, HN.out, HP.out, if_true, Bool.false_eq_true, if_false]; exact HL2.out) ?_ HK2.out⟩
              rw [HE.out]; simp only [KEY.out, HN.out, HP.out, if_true, Bool.false_eq_true, if_false, Bool.or_false]; exact HX2.out
        | false =>
          have HP := Lib.hid hp'
          by_cases hlt : i < 6
          all_goals
            try have hd' := hd hlt
            clear hd
            go_wp2_with (first | (go_at_call 56; refine (peek_any g s q v op 0 _ HL.out hs hq (by omega)).mono ?_; rintro e w3 ⟨rfl, rfl⟩) | (go_at_call 94; refine (hex_any _ _ (by omega) (by omega)).mono ?_; rintro e w3 ⟨rfl, rfl⟩) | (go_at_call 87; refine (isNewline_any _ _).mono ?_; rintro e w3 ⟨rfl, rfl⟩) | (go_at_call 58; refine (isSpace_any _ _).mono ?_; rintro e w3 ⟨rfl, rfl⟩))
            all_goals
              go_ret
              refine ⟨ret_int (by rw [HE.out]; simp only [KEY.out, HN.out, HP.out, Bool.false_eq_true, if_false]; unfold fixM; (try simp only [beq_iff_eq] at *); first | rw [if_pos (by omega)] | rw [if_neg (by omega)]), Lo.mk q hq (by rw [HE.out]; simp only [KEY.out, HN.out, HP.out, Bool.false_eq_true, if_false]) ?_ HK.out⟩
              rw [HE.out]; simp only [KEY.out, HN.out, HP.out, Bool.false_eq_true, if_false, Bool.or_false]; exact HL.out

theorem escape_any (g : Nat) (s : ByteArray) (p : Nat) (v : Value) (op : Bool) (w : World) (h : Lx w g s p v op) (hs : s.size ≤ 140737488355328) (hp : p ≤ s.size) :
    Calls Tryz.prog 69 #[.pointer (some ⟨g, 0, none⟩)] w fun e w' => e = .returned (.int .i64 (escM (lft s p)).1) ∧ Lo g s v w (escM (lft s p)).2.1 (op || (escM (lft s p)).2.2) w' := by
  by_cases hh : hexv (pk (lft s p) 0) < 0
  · exact escape_plain g s p v op w h hs hp hh
  · exact escape_hex g s p v op w h hs hp hh

end Go.Proofs.YtkaejhdncohgpaaGreatFmt

/- The reference's lexer: name. Condition: the text has at most 2^47 bytes. -/
namespace Go.Proofs.YtkaejhdncohgpaaGreatFmt
set_option linter.all false
open Go.RowKit
set_option maxRecDepth 100000

theorem peek0_any (g : Nat) (s : ByteArray) (p : Nat) (v : Value) (op : Bool) (w : World) (h : Lx w g s p v op) (hs : s.size ≤ 140737488355328) (hp : p ≤ s.size) :
    Calls Tryz.prog 56 #[.pointer (some ⟨g, 0, none⟩), .int .i64 0] w fun e w' => e = .returned (.int .i64 (pk (lft s p) 0)) ∧ w' = w := peek_any g s p v op 0 w h hs hp (by omega)
theorem peek1_any (g : Nat) (s : ByteArray) (p : Nat) (v : Value) (op : Bool) (w : World) (h : Lx w g s p v op) (hs : s.size ≤ 140737488355328) (hp : p ≤ s.size) :
    Calls Tryz.prog 56 #[.pointer (some ⟨g, 0, none⟩), .int .i64 1] w fun e w' => e = .returned (.int .i64 (pk (lft s p) 1)) ∧ w' = w := peek_any g s p v op 1 w h hs hp (by omega)
theorem peek2_any (g : Nat) (s : ByteArray) (p : Nat) (v : Value) (op : Bool) (w : World) (h : Lx w g s p v op) (hs : s.size ≤ 140737488355328) (hp : p ≤ s.size) :
    Calls Tryz.prog 56 #[.pointer (some ⟨g, 0, none⟩), .int .i64 2] w fun e w' => e = .returned (.int .i64 (pk (lft s p) 2)) ∧ w' = w := peek_any g s p v op 2 w h hs hp (by omega)
theorem peek3_any (g : Nat) (s : ByteArray) (p : Nat) (v : Value) (op : Bool) (w : World) (h : Lx w g s p v op) (hs : s.size ≤ 140737488355328) (hp : p ≤ s.size) :
    Calls Tryz.prog 56 #[.pointer (some ⟨g, 0, none⟩), .int .i64 3] w fun e w' => e = .returned (.int .i64 (pk (lft s p) 3)) ∧ w' = w := peek_any g s p v op 3 w h hs hp (by omega)

/-- Bytes as a string. -/
def bstr (l : List UInt8) : ByteArray := ⟨l.toArray⟩
theorem bstr_size (l : List UInt8) : (bstr l).size = l.length := by simp [bstr, ByteArray.size]
theorem bstr_add (l m : List UInt8) : bstr l ++ bstr m = bstr (l ++ m) := by
  apply ByteArray.ext
  simp [bstr, ByteArray.data_append]
theorem encd_le4 (c : Int) : (encd c).length ≤ 4 := by unfold encd; split; simp; split; simp; split <;> simp
theorem nameM_yes (n : Nat) (l : Its) (out : List UInt8) (op : Bool) (h : conts (pk l 0) = true) : nameM (n + 1) l out op = nameM n l.tail (out ++ encd (pk l 0)) op := by simp [nameM, h]
theorem nameM_esc (n : Nat) (l : Its) (out : List UInt8) (op : Bool) (h : conts (pk l 0) = false) (h' : escs (pk l 0) (pk l 1) = true) : nameM (n + 1) l out op = nameM n (escM l.tail).2.1 (out ++ encd (escM l.tail).1) (op || (escM l.tail).2.2) := by simp [nameM, h, h']
theorem nameM_no (n : Nat) (l : Its) (out : List UInt8) (op : Bool) (h : conts (pk l 0) = false) (h' : escs (pk l 0) (pk l 1) = false) : nameM n l out op = (out, l, op) := by cases n <;> simp [nameM, h, h']
theorem escM_range (s : ByteArray) (q : Nat) (hq : q ≤ s.size) : -10 ≤ (escM (lft s q)).1 ∧ (escM (lft s q)).1 ≤ 1114111 := by
  have hr := pk_range s q 0 hq
  have hf := fixM_range _ (hexM_nn 6 0 (lft s q) (by omega))
  unfold escM
  split
  · split <;> simp <;> omega
  · dsimp only
    split
    · dsimp only; omega
    split <;> (dsimp only; omega)
theorem conts_nil {l : Its} (h : conts (pk l 0) = true) : l.tail.length < l.length := by cases l <;> simp_all [pk, conts, starts, isDig]
theorem escs_nil {l : Its} {b : Int} (h : escs (pk l 0) b = true) : l.tail.length < l.length := by cases l <;> simp_all [pk, escs]

theorem encoded_b (c : Int) (w : World) (h0 : -10 ≤ c) (h1 : c ≤ 1114111) : Calls Tryz.prog 68 #[.int .i64 c] w fun e w' => e = .returned (.string (bstr (encd c))) ∧ Kp (fun _ => False) w w' := encoded_any c w h0 h1

def NamR (g : Nat) (s : ByteArray) (p : Nat) (v : Value) (op : Bool) (K : Nat) (w : World) (k : Nat) (a : Value) (wr : World) : Prop :=
  ∃ (q : Nat) (out : List UInt8) (o : Bool), a = .string (bstr out) ∧ q ≤ s.size ∧ out.length + 4 * (lft s q).length ≤ 4 * s.size ∧ Hid (nameM K (lft s p) [] op = nameM k (lft s q) out o) ∧ Hid ((lft s q).length < k) ∧ Hid (Lx wr g s q v o) ∧ Hid (Kp (fun k => k = g) w wr)

theorem lft_len (s : ByteArray) (q : Nat) (hq : q ≤ s.size) : (lft s q).length ≤ s.size - q := by
  have h1 := wsum_its _ (s.data.toList.drop q) (Nat.le_refl _)
  have h2 : ∀ (n : Nat) (l : List UInt8), l.length ≤ n → (its l).length ≤ wsum (its l) := by
    intro n
    induction n with
    | zero => intro l hl; have : l = [] := List.eq_nil_of_length_eq_zero (by omega); subst this; simp [its_nil]
    | succ n ih =>
      intro l hl
      by_cases h : l = []
      · subst h; simp [its_nil]
      · have hw := raL_wid l h
        rw [its_cons l h]
        have := ih (l.drop (raL l).2) (by simp; omega)
        simp only [wsum, List.length_cons, List.map_cons, List.sum_cons] at *
        omega
  have := h2 _ (s.data.toList.drop q) (Nat.le_refl _)
  unfold lft
  simp at h1
  omega

set_option maxHeartbeats 1000000 in
theorem name_any (g : Nat) (s : ByteArray) (p : Nat) (v : Value) (op : Bool) (K : Nat) (w : World) (h : Lx w g s p v op) (hs : s.size ≤ 140737488355328) (hp : p ≤ s.size) (hK : (lft s p).length < K) :
    Calls Tryz.prog 49 #[.pointer (some ⟨g, 0, none⟩)] w fun e w' => e = .returned (.string (bstr (nameM K (lft s p) [] op).1)) ∧ Lo g s v w (nameM K (lft s p) [] op).2.1 (nameM K (lft s p) [] op).2.2 w' := by
  have H := Lib.hid h
  have HK0 := Lib.hid hK
  have hl0 := lft_len s p hp
  have HL0 : (lft s p).length ≤ s.size := by omega
  clear h hK hl0
  go_enter Tryz.func49, Tryz.ntmps49
  go_wp2
  go_loopg [3] K (fun k a wr => NamR g s p v op K w k a wr)
  case atStart => exact ⟨p, [], op, rfl, hp, by simp; omega, Lib.hid rfl, HK0, H, Lib.hid (Kp.refl _ _)⟩
  case round =>
    obtain ⟨q, out, o, rfl, hq, hlen, HM, HN, HX, HK⟩ := hrel
    have hr := pk_range s q 0 hq
    obtain ⟨r0, r1⟩ := hr
    cases gk with
    | zero => exact absurd HN.out (by omega)
    | succ gk =>
      cases hc : conts (pk (lft s q) 0) with
      | true =>
        have HC := Lib.hid hc
        have hlt := conts_nil hc
        have hen := encd_le4 (pk (lft s q) 0)
        have HS := Lib.hid (nameM_yes gk (lft s q) out o hc)
        go_wp2_with (first | (go_at_call 56; (with_reducible refine (peek0_any g s q v o _ HX.out hs hq).mono ?_); rintro e w3 ⟨rfl, rfl⟩) | (go_at_call 61; refine (Continues_any _ _).mono ?_; rintro e w3 ⟨rfl, rfl⟩))
        refine (take_any g s q v o _ HX.out hs hq).mono ?_
        rintro e w4 ⟨rfl, p2, hp2, hl2, hx2, hk2⟩
        have HL2 := Lib.hid hl2
        have HX2 := Lib.hid hx2
        have HK2 := Lib.hid (HK.out.trans hk2)
        clear hl2 hx2 hk2
        go_wp2_with fail
        refine (encoded_b _ _ (by omega) r1).mono ?_
        rintro e w5 ⟨rfl, hk5⟩
        have HX5 := Lib.hid (HX2.out.kp hk5 (fun h => h))
        have HK5 := Lib.hid (HK2.out.trans' hk5 (fun _ _ h => h.elim))
        clear hk5
        have hsz : (bstr out).size + (bstr (encd (pk (lft s q) 0))).size ≤ 9223372036854775807 := by rw [bstr_size, bstr_size]; omega
        go_wp2
        go_roundg gk
        case rel => exact ⟨p2, out ++ encd (pk (lft s q) 0), o, by rw [bstr_add], hp2, by rw [HL2.out, List.length_append]; omega, Lib.hid (by rw [HM.out, HS.out, HL2.out]), Lib.hid (by rw [HL2.out]; have := HN.out; omega), HX5, HK5⟩
        case measure => omega
      | false =>
        cases he : escs (pk (lft s q) 0) (pk (lft s q) 1) with
        | true =>
          have HC := Lib.hid hc
          have hlt := escs_nil he
          have HS := Lib.hid (nameM_esc gk (lft s q) out o hc he)
          go_wp2_with (first | (go_at_call 56; (with_reducible refine (peek0_any g s q v o _ HX.out hs hq).mono ?_); rintro e w3 ⟨rfl, rfl⟩) | (go_at_call 61; refine (Continues_any _ _).mono ?_; rintro e w3 ⟨rfl, rfl⟩))
          refine (peek1_any g s q v o _ HX.out hs hq).mono ?_
          rintro e w3 ⟨rfl, rfl⟩
          go_wp2_with (go_at_call 62; refine (escapes_any _ _ _).mono ?_; rintro e w3 ⟨rfl, rfl⟩)
          refine (take_any g s q v o _ HX.out hs hq).mono ?_
          rintro e w4 ⟨rfl, p2, hp2, hl2, hx2, hk2⟩
          have her := escM_range s p2 hp2
          have hel := escM_le (lft s p2)
          rw [hl2] at her hel
          obtain ⟨e0, e1⟩ := her
          have HL2 := Lib.hid hl2
          have HX2 := Lib.hid hx2
          have HK2 := Lib.hid (HK.out.trans hk2)
          clear hl2 hx2 hk2
          go_wp2_with fail
          refine (escape_any g s p2 v o _ HX2.out hs hp2).mono ?_
          rintro e w5 ⟨rfl, p3, hp3, hl3, hx3, hk3⟩
          rw [HL2.out] at hl3 hx3 ⊢
          have HL3 := Lib.hid hl3
          have HX3 := Lib.hid hx3
          have HK3 := Lib.hid (HK2.out.trans hk3)
          clear hl3 hx3 hk3
          have hen := encd_le4 (escM (lft s q).tail).1
          go_wp2_with fail
          refine (encoded_b _ _ e0 e1).mono ?_
          rintro e w6 ⟨rfl, hk6⟩
          have HX6 := Lib.hid (HX3.out.kp hk6 (fun h => h))
          have HK6 := Lib.hid (HK3.out.trans' hk6 (fun _ _ h => h.elim))
          clear hk6
          have hsz : (bstr out).size + (bstr (encd (escM (lft s q).tail).1)).size ≤ 9223372036854775807 := by rw [bstr_size, bstr_size]; omega
          go_wp2
          go_roundg gk
          case rel => exact ⟨p3, out ++ encd (escM (lft s q).tail).1, _, by rw [bstr_add], hp3, by rw [HL3.out, List.length_append]; omega, Lib.hid (by rw [HM.out, HS.out, HL3.out]), Lib.hid (by rw [HL3.out]; have := HN.out; omega), HX6, HK6⟩
          case measure => omega
        | false =>
          have HS := Lib.hid (nameM_no (gk + 1) (lft s q) out o hc he)
          go_wp2_with (first | (go_at_call 56; (with_reducible refine (peek0_any g s q v o _ HX.out hs hq).mono ?_); rintro e w3 ⟨rfl, rfl⟩) | (go_at_call 61; refine (Continues_any _ _).mono ?_; rintro e w3 ⟨rfl, rfl⟩))
          refine (peek1_any g s q v o _ HX.out hs hq).mono ?_
          rintro e w3 ⟨rfl, rfl⟩
          go_wp2_with (go_at_call 62; refine (escapes_any _ _ _).mono ?_; rintro e w3 ⟨rfl, rfl⟩)
          go_ret
          rw [HM.out, HS.out]
          exact ⟨rfl, Lo.mk q hq rfl HX.out HK.out⟩

end Go.Proofs.YtkaejhdncohgpaaGreatFmt
