/- The reference's lexer: the ways of next. Condition: the text has at most 2^47 bytes. -/
import Derived.Test.YtkaejhdncohgpaaGreatFmtL8
namespace Go.Proofs.YtkaejhdncohgpaaGreatFmt
set_option linter.all false
open Go.RowKit
set_option maxRecDepth 100000

theorem beq_t {a b : Int} (h : a = b) : (a == b) = true := by simp [h]
theorem beq_f {a b : Int} (h : a ≠ b) : (a == b) = false := by simp [h]

set_option maxHeartbeats 400000 in
theorem next_eof (g : Nat) (s : ByteArray) (v : Value) (op : Bool) (K : Nat) (w : World) (l0 : Its) (h : At g s v w l0 op w) (hs : s.size ≤ 140737488355328) (hK : l0.length < K) (hc : pk l0 0 = -1) :
    Calls Tryz.prog 48 #[.pointer (some ⟨g, 0, none⟩)] w fun e w' => e = .returned (tokV 0 0 0 0 false []) ∧ Lo g s v w l0 op w' := by
  have HKK := Lib.hid hK
  have hgl := h.gl
  have HA := h.new tok0
  have HB := Lib.hid (alloc_tok w)
  have HKA := Lib.hid ((Kp.refl (fun k => k = g) w).alloc tok0)
  have HS := Lib.hid (Array.getElem?_eq_some_iff.1 (alloc_tok w)).1
  clear h hK
  have b0 := beq_t hc
  clear hc
  go_enter Tryz.func48, Tryz.ntmps48
  go_wp2_with fail
  generalize w.alloc tok0 = w1 at *
  have hwb : w1.heap[w.heap.size]? = some tok0 := by rw [HA.block HS.out (by omega)]; exact HB.out
  have six' := six hwb
  obtain ⟨⟨c0, c1, c2, c3, c4, c5⟩, z0, z1, z2, z3, z4, z5⟩ := six'
  clear hwb
  go_wp2_with (first | (go_at_call 56; (with_reducible refine (peek0_at HA hs).mono ?_); rintro e w9 ⟨rfl, rfl⟩) | (go_at_call 56; (with_reducible refine (peek1_at HA hs).mono ?_); rintro e w9 ⟨rfl, rfl⟩) | (go_at_call 56; (with_reducible refine (peek2_at HA hs).mono ?_); rintro e w9 ⟨rfl, rfl⟩) | (go_at_call 56; (with_reducible refine (peek3_at HA hs).mono ?_); rintro e w9 ⟨rfl, rfl⟩) | (go_at_call 58; refine (isSpace_any _ _).mono ?_; rintro e w9 ⟨rfl, rfl⟩) | (go_at_call 61; refine (Continues_any _ _).mono ?_; rintro e w9 ⟨rfl, rfl⟩) | (go_at_call 62; refine (escapes_any _ _ _).mono ?_; rintro e w9 ⟨rfl, rfl⟩) | (go_at_call 64; refine (counts_any _ _ _ _).mono ?_; rintro e w9 ⟨rfl, rfl⟩) | (go_at_call 63; refine (identifies_any _ _ _ _).mono ?_; rintro e w9 ⟨rfl, rfl⟩))
  exact bodyPost_ret (v := tokV 0 0 0 0 false []) (by simp [results, Tryz.results48, go_sem, tokV, bstr_nil, c0, c1, c2, c3, c4, c5]) rfl ⟨rfl, by exact HA.put6 HKA.out hgl (Nat.le_refl _) _ _ _ _ _ _⟩

set_option maxHeartbeats 400000 in
theorem next_space (g : Nat) (s : ByteArray) (v : Value) (op : Bool) (K : Nat) (w : World) (l0 : Its) (h : At g s v w l0 op w) (hs : s.size ≤ 140737488355328) (hK : l0.length < K) (hc : isSp (pk l0 0) = true) :
    Calls Tryz.prog 48 #[.pointer (some ⟨g, 0, none⟩)] w fun e w' => e = .returned (tokV 38 0 0 0 false []) ∧ Lo g s v w (spM l0) op w' := by
  have HKK := Lib.hid hK
  have hgl := h.gl
  have HA := h.new tok0
  have HB := Lib.hid (alloc_tok w)
  have HKA := Lib.hid ((Kp.refl (fun k => k = g) w).alloc tok0)
  have HS := Lib.hid (Array.getElem?_eq_some_iff.1 (alloc_tok w)).1
  clear h hK
  have b0 : (pk l0 0 == -1) = false := beq_f (by intro hx; rw [hx] at hc; simp [isSp, isNl] at hc)
  go_enter Tryz.func48, Tryz.ntmps48
  go_wp2_with fail
  generalize w.alloc tok0 = w1 at *
  go_wp2_with (first | (go_at_call 56; (with_reducible refine (peek0_at HA hs).mono ?_); rintro e w9 ⟨rfl, rfl⟩) | (go_at_call 56; (with_reducible refine (peek1_at HA hs).mono ?_); rintro e w9 ⟨rfl, rfl⟩) | (go_at_call 56; (with_reducible refine (peek2_at HA hs).mono ?_); rintro e w9 ⟨rfl, rfl⟩) | (go_at_call 56; (with_reducible refine (peek3_at HA hs).mono ?_); rintro e w9 ⟨rfl, rfl⟩) | (go_at_call 58; refine (isSpace_any _ _).mono ?_; rintro e w9 ⟨rfl, rfl⟩) | (go_at_call 61; refine (Continues_any _ _).mono ?_; rintro e w9 ⟨rfl, rfl⟩) | (go_at_call 62; refine (escapes_any _ _ _).mono ?_; rintro e w9 ⟨rfl, rfl⟩) | (go_at_call 64; refine (counts_any _ _ _ _).mono ?_; rintro e w9 ⟨rfl, rfl⟩) | (go_at_call 63; refine (identifies_any _ _ _ _).mono ?_; rintro e w9 ⟨rfl, rfl⟩))
  refine (spaces_at HA hs).mono ?_
  rintro e w5 ⟨he, HA5⟩
  try unfold tokV at he
  rw [he]
  clear he
  clear HA
  have HA := HA5
  clear HA5
  have hwb : w5.heap[w.heap.size]? = some tok0 := by rw [HA.block HS.out (by omega)]; exact HB.out
  have six' := six hwb
  obtain ⟨⟨c0, c1, c2, c3, c4, c5⟩, z0, z1, z2, z3, z4, z5⟩ := six'
  clear hwb
  go_wp2
  exact bodyPost_ret (v := tokV 38 0 0 0 false []) (by simp [results, Tryz.results48, go_sem, tokV, bstr_nil, c0, c1, c2, c3, c4, c5]) rfl ⟨rfl, by exact HA.put6 HKA.out hgl (Nat.le_refl _) _ _ _ _ _ _⟩

set_option maxHeartbeats 400000 in
theorem next_quoted (g : Nat) (s : ByteArray) (v : Value) (op : Bool) (K : Nat) (w : World) (l0 : Its) (h : At g s v w l0 op w) (hs : s.size ≤ 140737488355328) (hK : l0.length < K) (hc : pk l0 0 = 34 ∨ pk l0 0 = 39) (k : Int) (tx : List UInt8) (l1 : Its) (o1 : Bool) (HQ : Hid (quotM K (pk l0 0) l0.tail [] op = (k, tx, l1, o1))) :
    Calls Tryz.prog 48 #[.pointer (some ⟨g, 0, none⟩)] w fun e w' => e = .returned (tokV k 0 0 0 false tx) ∧ Lo g s v w l1 o1 w' := by
  have HKK := Lib.hid hK
  have hgl := h.gl
  have HA := h.new tok0
  have HB := Lib.hid (alloc_tok w)
  have HKA := Lib.hid ((Kp.refl (fun k => k = g) w).alloc tok0)
  have HS := Lib.hid (Array.getElem?_eq_some_iff.1 (alloc_tok w)).1
  clear h hK
  have b0 : (pk l0 0 == -1) = false := beq_f (by omega)
  have b1 : isSp (pk l0 0) = false := by rcases hc with h | h <;> simp [isSp, isNl, h]
  have b2 : ((pk l0 0 == 34) = true) ∨ ((pk l0 0 == 34) = false ∧ (pk l0 0 == 39) = true) := by
    rcases hc with h | h
    · exact .inl (beq_t h)
    · exact .inr ⟨beq_f (by omega), beq_t h⟩
  clear hc
  rcases b2 with b2 | ⟨b2, b3⟩
  all_goals
    go_enter Tryz.func48, Tryz.ntmps48
    go_wp2_with fail
    generalize w.alloc tok0 = w1 at *
    go_wp2_with (first | (go_at_call 56; (with_reducible refine (peek0_at HA hs).mono ?_); rintro e w9 ⟨rfl, rfl⟩) | (go_at_call 56; (with_reducible refine (peek1_at HA hs).mono ?_); rintro e w9 ⟨rfl, rfl⟩) | (go_at_call 56; (with_reducible refine (peek2_at HA hs).mono ?_); rintro e w9 ⟨rfl, rfl⟩) | (go_at_call 56; (with_reducible refine (peek3_at HA hs).mono ?_); rintro e w9 ⟨rfl, rfl⟩) | (go_at_call 58; refine (isSpace_any _ _).mono ?_; rintro e w9 ⟨rfl, rfl⟩) | (go_at_call 61; refine (Continues_any _ _).mono ?_; rintro e w9 ⟨rfl, rfl⟩) | (go_at_call 62; refine (escapes_any _ _ _).mono ?_; rintro e w9 ⟨rfl, rfl⟩) | (go_at_call 64; refine (counts_any _ _ _ _).mono ?_; rintro e w9 ⟨rfl, rfl⟩) | (go_at_call 63; refine (identifies_any _ _ _ _).mono ?_; rintro e w9 ⟨rfl, rfl⟩))
    refine (quoted_at K HA hs HKK.out).mono ?_
    rintro e w5 ⟨he, HA5⟩
    try unfold tokV at he
    rw [he]
    clear he
    rw [HQ.out] at HA5 ⊢
    clear HA
    have HA := HA5
    clear HA5
    have hwb : w5.heap[w.heap.size]? = some tok0 := by rw [HA.block HS.out (by omega)]; exact HB.out
    have six' := six hwb
    obtain ⟨⟨c0, c1, c2, c3, c4, c5⟩, z0, z1, z2, z3, z4, z5⟩ := six'
    clear hwb
    go_wp2
    exact bodyPost_ret (v := tokV k 0 0 0 false tx) (by simp [results, Tryz.results48, go_sem, tokV, bstr_nil, c0, c1, c2, c3, c4, c5]) rfl ⟨rfl, by exact HA.put6 HKA.out hgl (Nat.le_refl _) _ _ _ _ _ _⟩

set_option maxHeartbeats 400000 in
theorem next_hash (g : Nat) (s : ByteArray) (v : Value) (op : Bool) (K : Nat) (w : World) (l0 : Its) (h : At g s v w l0 op w) (hs : s.size ≤ 140737488355328) (hK : l0.length < K) (hc : pk l0 0 = 35) (hd : conts (pk l0 1) = true ∨ conts (pk l0 1) = false ∧ escs (pk l0 1) (pk l0 2) = true) (tx : List UInt8) (l1 : Its) (o1 : Bool) (HN : Hid (nameM K l0.tail [] op = (tx, l1, o1))) :
    Calls Tryz.prog 48 #[.pointer (some ⟨g, 0, none⟩)] w fun e w' => e = .returned (tokV 28 0 0 0 (idents (pk l0 1) (pk l0 2) (pk l0 3)) tx) ∧ Lo g s v w l1 o1 w' := by
  have HKK := Lib.hid hK
  have hgl := h.gl
  have HA := h.new tok0
  have HB := Lib.hid (alloc_tok w)
  have HKA := Lib.hid ((Kp.refl (fun k => k = g) w).alloc tok0)
  have HS := Lib.hid (Array.getElem?_eq_some_iff.1 (alloc_tok w)).1
  clear h hK
  have b1 : isSp (pk l0 0) = false := by simp [isSp, isNl, hc]
  have b2 := beq_f (a := pk l0 0) (b := 34) (by omega)
  have b3 := beq_f (a := pk l0 0) (b := 39) (by omega)
  have b0 := beq_f (a := pk l0 0) (b := -1) (by omega)
  have b4 := beq_t hc
  clear hc
  rcases hd with hd | ⟨hd, hd2⟩
  all_goals
    go_enter Tryz.func48, Tryz.ntmps48
    go_wp2_with fail
    generalize w.alloc tok0 = w1 at *
    go_wp2_with (first | (go_at_call 56; (with_reducible refine (peek0_at HA hs).mono ?_); rintro e w9 ⟨rfl, rfl⟩) | (go_at_call 56; (with_reducible refine (peek1_at HA hs).mono ?_); rintro e w9 ⟨rfl, rfl⟩) | (go_at_call 56; (with_reducible refine (peek2_at HA hs).mono ?_); rintro e w9 ⟨rfl, rfl⟩) | (go_at_call 56; (with_reducible refine (peek3_at HA hs).mono ?_); rintro e w9 ⟨rfl, rfl⟩) | (go_at_call 58; refine (isSpace_any _ _).mono ?_; rintro e w9 ⟨rfl, rfl⟩) | (go_at_call 61; refine (Continues_any _ _).mono ?_; rintro e w9 ⟨rfl, rfl⟩) | (go_at_call 62; refine (escapes_any _ _ _).mono ?_; rintro e w9 ⟨rfl, rfl⟩) | (go_at_call 64; refine (counts_any _ _ _ _).mono ?_; rintro e w9 ⟨rfl, rfl⟩) | (go_at_call 63; refine (identifies_any _ _ _ _).mono ?_; rintro e w9 ⟨rfl, rfl⟩))
    refine (take_at HA hs).mono ?_
    rintro e w5 ⟨rfl, HA5⟩
    clear HA
    have HA := HA5
    clear HA5
    have e3 : pk l0.tail 2 = pk l0 3 := pk_tail l0 2
    go_wp2_with (first | (go_at_call 56; (with_reducible refine (peek2_at HA hs).mono ?_); rw [e3]; rintro e w9 ⟨rfl, rfl⟩) | (go_at_call 63; refine (identifies_any _ _ _ _).mono ?_; rintro e w9 ⟨rfl, rfl⟩))
    refine (name_at K HA hs (Nat.lt_of_le_of_lt (tail_le l0) HKK.out)).mono ?_
    rintro e w6 ⟨rfl, HA5⟩
    rw [HN.out] at HA5 ⊢
    clear HA e3
    have HA := HA5
    clear HA5
    have hwb : w6.heap[w.heap.size]? = some tok0 := by rw [HA.block HS.out (by omega)]; exact HB.out
    have six' := six hwb
    obtain ⟨⟨c0, c1, c2, c3, c4, c5⟩, z0, z1, z2, z3, z4, z5⟩ := six'
    clear hwb
    go_wp2
    exact bodyPost_ret (v := tokV 28 0 0 0 (idents (pk l0 1) (pk l0 2) (pk l0 3)) tx) (by simp [results, Tryz.results48, go_sem, tokV, bstr_nil, c0, c1, c2, c3, c4, c5]) rfl ⟨rfl, by exact HA.put6 HKA.out hgl (Nat.le_refl _) _ _ _ _ _ _⟩

set_option maxHeartbeats 400000 in
theorem next_num (g : Nat) (s : ByteArray) (v : Value) (op : Bool) (K : Nat) (w : World) (l0 : Its) (h : At g s v w l0 op w) (hs : s.size ≤ 140737488355328) (hK : l0.length < K) (h1 : pk l0 0 ≠ -1) (hsp : isSp (pk l0 0) = false) (h2 : pk l0 0 ≠ 34) (h3 : pk l0 0 ≠ 39) (h4 : pk l0 0 ≠ 35) (hn : cnts (pk l0 0) (pk l0 1) (pk l0 2) = true) (k : Int) (u : Nat) (l1 : Its) (o1 : Bool) (HQ : Hid (numM K l0 op = (k, u, l1, o1))) :
    Calls Tryz.prog 48 #[.pointer (some ⟨g, 0, none⟩)] w fun e w' => e = .returned (tokV k 0 0 u false []) ∧ Lo g s v w l1 o1 w' := by
  have HKK := Lib.hid hK
  have hgl := h.gl
  have HA := h.new tok0
  have HB := Lib.hid (alloc_tok w)
  have HKA := Lib.hid ((Kp.refl (fun k => k = g) w).alloc tok0)
  have HS := Lib.hid (Array.getElem?_eq_some_iff.1 (alloc_tok w)).1
  clear h hK
  have b0 := beq_f (a := pk l0 0) (b := -1) h1
  have b2 := beq_f (a := pk l0 0) (b := 34) h2
  have b3 := beq_f (a := pk l0 0) (b := 39) h3
  have b4 := beq_f (a := pk l0 0) (b := 35) h4
  clear h1 h2 h3 h4
  go_enter Tryz.func48, Tryz.ntmps48
  go_wp2_with fail
  generalize w.alloc tok0 = w1 at *
  go_wp2_with (first | (go_at_call 56; (with_reducible refine (peek0_at HA hs).mono ?_); rintro e w9 ⟨rfl, rfl⟩) | (go_at_call 56; (with_reducible refine (peek1_at HA hs).mono ?_); rintro e w9 ⟨rfl, rfl⟩) | (go_at_call 56; (with_reducible refine (peek2_at HA hs).mono ?_); rintro e w9 ⟨rfl, rfl⟩) | (go_at_call 56; (with_reducible refine (peek3_at HA hs).mono ?_); rintro e w9 ⟨rfl, rfl⟩) | (go_at_call 58; refine (isSpace_any _ _).mono ?_; rintro e w9 ⟨rfl, rfl⟩) | (go_at_call 61; refine (Continues_any _ _).mono ?_; rintro e w9 ⟨rfl, rfl⟩) | (go_at_call 62; refine (escapes_any _ _ _).mono ?_; rintro e w9 ⟨rfl, rfl⟩) | (go_at_call 64; refine (counts_any _ _ _ _).mono ?_; rintro e w9 ⟨rfl, rfl⟩) | (go_at_call 63; refine (identifies_any _ _ _ _).mono ?_; rintro e w9 ⟨rfl, rfl⟩))
  refine ((numeric_core g s v op K _ l0 HA.anew hs HKK.out)).mono ?_
  rintro e w5 ⟨he, HA5⟩
  try unfold tokV at he
  rw [he]
  clear he
  rw [HQ.out] at HA5 ⊢
  have HA5 := HA.step HA5
  clear HA
  have HA := HA5
  clear HA5
  have hwb : w5.heap[w.heap.size]? = some tok0 := by rw [HA.block HS.out (by omega)]; exact HB.out
  have six' := six hwb
  obtain ⟨⟨c0, c1, c2, c3, c4, c5⟩, z0, z1, z2, z3, z4, z5⟩ := six'
  clear hwb
  go_wp2
  exact bodyPost_ret (v := tokV k 0 0 u false []) (by simp [results, Tryz.results48, go_sem, tokV, bstr_nil, c0, c1, c2, c3, c4, c5]) rfl ⟨rfl, by exact HA.put6 HKA.out hgl (Nat.le_refl _) _ _ _ _ _ _⟩

set_option maxHeartbeats 400000 in
theorem next_ident (g : Nat) (s : ByteArray) (v : Value) (op : Bool) (K : Nat) (w : World) (l0 : Its) (h : At g s v w l0 op w) (hs : s.size ≤ 140737488355328) (hK : l0.length < K) (h1 : pk l0 0 ≠ -1) (hsp : isSp (pk l0 0) = false) (h2 : pk l0 0 ≠ 34) (h3 : pk l0 0 ≠ 39) (h4 : pk l0 0 ≠ 35) (hn : cnts (pk l0 0) (pk l0 1) (pk l0 2) = false) (hcd : ¬ (pk l0 0 = 45 ∧ pk l0 1 = 45 ∧ pk l0 2 = 62)) (hi : idents (pk l0 0) (pk l0 1) (pk l0 2) = true) (nm : List UInt8) (l1 : Its) (o1 : Bool) (HN : Hid (nameM K l0 [] op = (nm, l1, o1))) (hc : (pk l1 0 != 40) = true) :
    Calls Tryz.prog 48 #[.pointer (some ⟨g, 0, none⟩)] w fun e w' => e = .returned (tokV 29 0 0 0 false nm) ∧ Lo g s v w l1 o1 w' := by
  have HKK := Lib.hid hK
  have hgl := h.gl
  have HA := h.new tok0
  have HB := Lib.hid (alloc_tok w)
  have HKA := Lib.hid ((Kp.refl (fun k => k = g) w).alloc tok0)
  have HS := Lib.hid (Array.getElem?_eq_some_iff.1 (alloc_tok w)).1
  clear h hK
  have b0 := beq_f (a := pk l0 0) (b := -1) h1
  have b2 := beq_f (a := pk l0 0) (b := 34) h2
  have b3 := beq_f (a := pk l0 0) (b := 39) h3
  have b4 := beq_f (a := pk l0 0) (b := 35) h4
  clear h1 h2 h3 h4
  have b5 : (pk l0 0 == 45) = true ∧ (pk l0 1 == 45) = true ∧ (pk l0 2 == 62) = false ∨ (pk l0 0 == 45) = true ∧ (pk l0 1 == 45) = false ∨ (pk l0 0 == 45) = false := by
    by_cases x1 : pk l0 0 = 45
    · by_cases x2 : pk l0 1 = 45
      · exact .inl ⟨beq_t x1, beq_t x2, beq_f fun x3 => hcd ⟨x1, x2, x3⟩⟩
      · exact .inr (.inl ⟨beq_t x1, beq_f x2⟩)
    · exact .inr (.inr (beq_f x1))
  clear hcd
  rcases b5 with ⟨b5, b6, b7⟩ | ⟨b5, b6⟩ | b5
  all_goals
    go_enter Tryz.func48, Tryz.ntmps48
    go_wp2_with fail
    generalize w.alloc tok0 = w1 at *
    go_wp2_with (first | (go_at_call 56; (with_reducible refine (peek0_at HA hs).mono ?_); rintro e w9 ⟨rfl, rfl⟩) | (go_at_call 56; (with_reducible refine (peek1_at HA hs).mono ?_); rintro e w9 ⟨rfl, rfl⟩) | (go_at_call 56; (with_reducible refine (peek2_at HA hs).mono ?_); rintro e w9 ⟨rfl, rfl⟩) | (go_at_call 56; (with_reducible refine (peek3_at HA hs).mono ?_); rintro e w9 ⟨rfl, rfl⟩) | (go_at_call 58; refine (isSpace_any _ _).mono ?_; rintro e w9 ⟨rfl, rfl⟩) | (go_at_call 61; refine (Continues_any _ _).mono ?_; rintro e w9 ⟨rfl, rfl⟩) | (go_at_call 62; refine (escapes_any _ _ _).mono ?_; rintro e w9 ⟨rfl, rfl⟩) | (go_at_call 64; refine (counts_any _ _ _ _).mono ?_; rintro e w9 ⟨rfl, rfl⟩) | (go_at_call 63; refine (identifies_any _ _ _ _).mono ?_; rintro e w9 ⟨rfl, rfl⟩))
    refine ((named_ident g s v op K _ l0 HA.anew hs HKK.out nm l1 o1 HN hc)).mono ?_
    rintro e w5 ⟨he, HA5⟩
    try unfold tokV at he
    rw [he]
    clear he
    have HA5 := HA.step HA5
    clear HA
    have HA := HA5
    clear HA5
    have hwb : w5.heap[w.heap.size]? = some tok0 := by rw [HA.block HS.out (by omega)]; exact HB.out
    have six' := six hwb
    obtain ⟨⟨c0, c1, c2, c3, c4, c5⟩, z0, z1, z2, z3, z4, z5⟩ := six'
    clear hwb
    go_wp2
    exact bodyPost_ret (v := tokV 29 0 0 0 false nm) (by simp [results, Tryz.results48, go_sem, tokV, bstr_nil, c0, c1, c2, c3, c4, c5]) rfl ⟨rfl, by exact HA.put6 HKA.out hgl (Nat.le_refl _) _ _ _ _ _ _⟩

set_option maxHeartbeats 400000 in
theorem next_func (g : Nat) (s : ByteArray) (v : Value) (op : Bool) (K : Nat) (w : World) (l0 : Its) (h : At g s v w l0 op w) (hs : s.size ≤ 140737488355328) (hK : l0.length < K) (h1 : pk l0 0 ≠ -1) (hsp : isSp (pk l0 0) = false) (h2 : pk l0 0 ≠ 34) (h3 : pk l0 0 ≠ 39) (h4 : pk l0 0 ≠ 35) (hn : cnts (pk l0 0) (pk l0 1) (pk l0 2) = false) (hcd : ¬ (pk l0 0 = 45 ∧ pk l0 1 = 45 ∧ pk l0 2 = 62)) (hi : idents (pk l0 0) (pk l0 1) (pk l0 2) = true) (nm : List UInt8) (l1 : Its) (o1 : Bool) (HN : Hid (nameM K l0 [] op = (nm, l1, o1))) (HC : Hid (pk l1 0 = 40)) (hu : isUrlB nm = false) :
    Calls Tryz.prog 48 #[.pointer (some ⟨g, 0, none⟩)] w fun e w' => e = .returned (tokV 27 0 0 0 false nm) ∧ Lo g s v w l1.tail o1 w' := by
  have HKK := Lib.hid hK
  have hgl := h.gl
  have HA := h.new tok0
  have HB := Lib.hid (alloc_tok w)
  have HKA := Lib.hid ((Kp.refl (fun k => k = g) w).alloc tok0)
  have HS := Lib.hid (Array.getElem?_eq_some_iff.1 (alloc_tok w)).1
  clear h hK
  have b0 := beq_f (a := pk l0 0) (b := -1) h1
  have b2 := beq_f (a := pk l0 0) (b := 34) h2
  have b3 := beq_f (a := pk l0 0) (b := 39) h3
  have b4 := beq_f (a := pk l0 0) (b := 35) h4
  clear h1 h2 h3 h4
  have b5 : (pk l0 0 == 45) = true ∧ (pk l0 1 == 45) = true ∧ (pk l0 2 == 62) = false ∨ (pk l0 0 == 45) = true ∧ (pk l0 1 == 45) = false ∨ (pk l0 0 == 45) = false := by
    by_cases x1 : pk l0 0 = 45
    · by_cases x2 : pk l0 1 = 45
      · exact .inl ⟨beq_t x1, beq_t x2, beq_f fun x3 => hcd ⟨x1, x2, x3⟩⟩
      · exact .inr (.inl ⟨beq_t x1, beq_f x2⟩)
    · exact .inr (.inr (beq_f x1))
  clear hcd
  rcases b5 with ⟨b5, b6, b7⟩ | ⟨b5, b6⟩ | b5
  all_goals
    go_enter Tryz.func48, Tryz.ntmps48
    go_wp2_with fail
    generalize w.alloc tok0 = w1 at *
    go_wp2_with (first | (go_at_call 56; (with_reducible refine (peek0_at HA hs).mono ?_); rintro e w9 ⟨rfl, rfl⟩) | (go_at_call 56; (with_reducible refine (peek1_at HA hs).mono ?_); rintro e w9 ⟨rfl, rfl⟩) | (go_at_call 56; (with_reducible refine (peek2_at HA hs).mono ?_); rintro e w9 ⟨rfl, rfl⟩) | (go_at_call 56; (with_reducible refine (peek3_at HA hs).mono ?_); rintro e w9 ⟨rfl, rfl⟩) | (go_at_call 58; refine (isSpace_any _ _).mono ?_; rintro e w9 ⟨rfl, rfl⟩) | (go_at_call 61; refine (Continues_any _ _).mono ?_; rintro e w9 ⟨rfl, rfl⟩) | (go_at_call 62; refine (escapes_any _ _ _).mono ?_; rintro e w9 ⟨rfl, rfl⟩) | (go_at_call 64; refine (counts_any _ _ _ _).mono ?_; rintro e w9 ⟨rfl, rfl⟩) | (go_at_call 63; refine (identifies_any _ _ _ _).mono ?_; rintro e w9 ⟨rfl, rfl⟩))
    refine ((named_func g s v op K _ l0 HA.anew hs HKK.out nm l1 o1 HN HC.out hu)).mono ?_
    rintro e w5 ⟨he, HA5⟩
    try unfold tokV at he
    rw [he]
    clear he
    have HA5 := HA.step HA5
    clear HA
    have HA := HA5
    clear HA5
    have hwb : w5.heap[w.heap.size]? = some tok0 := by rw [HA.block HS.out (by omega)]; exact HB.out
    have six' := six hwb
    obtain ⟨⟨c0, c1, c2, c3, c4, c5⟩, z0, z1, z2, z3, z4, z5⟩ := six'
    clear hwb
    go_wp2
    exact bodyPost_ret (v := tokV 27 0 0 0 false nm) (by simp [results, Tryz.results48, go_sem, tokV, bstr_nil, c0, c1, c2, c3, c4, c5]) rfl ⟨rfl, by exact HA.put6 HKA.out hgl (Nat.le_refl _) _ _ _ _ _ _⟩

set_option maxHeartbeats 400000 in
theorem next_at (g : Nat) (s : ByteArray) (v : Value) (op : Bool) (K : Nat) (w : World) (l0 : Its) (h : At g s v w l0 op w) (hs : s.size ≤ 140737488355328) (hK : l0.length < K) (hc : pk l0 0 = 64) (hi : idents (pk l0 1) (pk l0 2) (pk l0 3) = true) (tx : List UInt8) (l1 : Its) (o1 : Bool) (HN : Hid (nameM K l0.tail [] op = (tx, l1, o1))) :
    Calls Tryz.prog 48 #[.pointer (some ⟨g, 0, none⟩)] w fun e w' => e = .returned (tokV 1 0 0 0 false tx) ∧ Lo g s v w l1 o1 w' := by
  have HKK := Lib.hid hK
  have hgl := h.gl
  have HA := h.new tok0
  have HB := Lib.hid (alloc_tok w)
  have HKA := Lib.hid ((Kp.refl (fun k => k = g) w).alloc tok0)
  have HS := Lib.hid (Array.getElem?_eq_some_iff.1 (alloc_tok w)).1
  clear h hK
  have b0 := beq_f (a := pk l0 0) (b := -1) (by omega)
  have b1 : isSp (pk l0 0) = false := by simp [isSp, isNl, hc]
  have b2 := beq_f (a := pk l0 0) (b := 34) (by omega)
  have b3 := beq_f (a := pk l0 0) (b := 39) (by omega)
  have b4 := beq_f (a := pk l0 0) (b := 35) (by omega)
  have b5 := beq_f (a := pk l0 0) (b := 45) (by omega)
  have b6 := beq_f (a := pk l0 0) (b := 60) (by omega)
  have b7 := beq_t hc
  have b8 : cnts (pk l0 0) (pk l0 1) (pk l0 2) = false := by simp [cnts, isDig, hc]
  have b9 : idents (pk l0 0) (pk l0 1) (pk l0 2) = false := by simp [idents, starts, escs, hc]
  clear hc
  go_enter Tryz.func48, Tryz.ntmps48
  go_wp2_with fail
  generalize w.alloc tok0 = w1 at *
  go_wp2_with (first | (go_at_call 56; (with_reducible refine (peek0_at HA hs).mono ?_); rintro e w9 ⟨rfl, rfl⟩) | (go_at_call 56; (with_reducible refine (peek1_at HA hs).mono ?_); rintro e w9 ⟨rfl, rfl⟩) | (go_at_call 56; (with_reducible refine (peek2_at HA hs).mono ?_); rintro e w9 ⟨rfl, rfl⟩) | (go_at_call 56; (with_reducible refine (peek3_at HA hs).mono ?_); rintro e w9 ⟨rfl, rfl⟩) | (go_at_call 58; refine (isSpace_any _ _).mono ?_; rintro e w9 ⟨rfl, rfl⟩) | (go_at_call 61; refine (Continues_any _ _).mono ?_; rintro e w9 ⟨rfl, rfl⟩) | (go_at_call 62; refine (escapes_any _ _ _).mono ?_; rintro e w9 ⟨rfl, rfl⟩) | (go_at_call 64; refine (counts_any _ _ _ _).mono ?_; rintro e w9 ⟨rfl, rfl⟩) | (go_at_call 63; refine (identifies_any _ _ _ _).mono ?_; rintro e w9 ⟨rfl, rfl⟩))
  refine (take_at HA hs).mono ?_
  rintro e w5 ⟨rfl, HA5⟩
  clear HA
  have HA := HA5
  clear HA5
  go_wp2_with fail
  refine (name_at K HA hs (Nat.lt_of_le_of_lt (tail_le l0) HKK.out)).mono ?_
  rintro e w6 ⟨rfl, HA5⟩
  rw [HN.out] at HA5 ⊢
  clear HA
  have HA := HA5
  clear HA5
  have hwb : w6.heap[w.heap.size]? = some tok0 := by rw [HA.block HS.out (by omega)]; exact HB.out
  have six' := six hwb
  obtain ⟨⟨c0, c1, c2, c3, c4, c5⟩, z0, z1, z2, z3, z4, z5⟩ := six'
  clear hwb
  go_wp2
  exact bodyPost_ret (v := tokV 1 0 0 0 false tx) (by simp [results, Tryz.results48, go_sem, tokV, bstr_nil, c0, c1, c2, c3, c4, c5]) rfl ⟨rfl, by exact HA.put6 HKA.out hgl (Nat.le_refl _) _ _ _ _ _ _⟩

set_option maxHeartbeats 400000 in
theorem next_c41 (g : Nat) (s : ByteArray) (v : Value) (op : Bool) (K : Nat) (w : World) (l0 : Its) (h : At g s v w l0 op w) (hs : s.size ≤ 140737488355328) (hK : l0.length < K) (hc : pk l0 0 = 41) :
    Calls Tryz.prog 48 #[.pointer (some ⟨g, 0, none⟩)] w fun e w' => e = .returned (tokV 8 0 0 0 false []) ∧ Lo g s v w l0.tail op w' := by
  have HKK := Lib.hid hK
  have hgl := h.gl
  have HA := h.new tok0
  have HB := Lib.hid (alloc_tok w)
  have HKA := Lib.hid ((Kp.refl (fun k => k = g) w).alloc tok0)
  have HS := Lib.hid (Array.getElem?_eq_some_iff.1 (alloc_tok w)).1
  clear h hK
  have b0 := beq_f (a := pk l0 0) (b := -1) (by omega)
  have b1 : isSp (pk l0 0) = false := by simp [isSp, isNl, hc]
  have b2 := beq_f (a := pk l0 0) (b := 34) (by omega)
  have b3 := beq_f (a := pk l0 0) (b := 39) (by omega)
  have b4 := beq_f (a := pk l0 0) (b := 35) (by omega)
  have b5 := beq_f (a := pk l0 0) (b := 45) (by omega)
  have b6 := beq_f (a := pk l0 0) (b := 60) (by omega)
  have b7 := beq_f (a := pk l0 0) (b := 64) (by omega)
  have b8 : cnts (pk l0 0) (pk l0 1) (pk l0 2) = false := by simp [cnts, isDig, hc]
  have b9 : idents (pk l0 0) (pk l0 1) (pk l0 2) = false := by simp [idents, starts, escs, hc]
  have HC := Lib.hid hc
  clear hc
  go_enter Tryz.func48, Tryz.ntmps48
  go_wp2_with fail
  generalize w.alloc tok0 = w1 at *
  go_wp2_with (first | (go_at_call 56; (with_reducible refine (peek0_at HA hs).mono ?_); rintro e w9 ⟨rfl, rfl⟩) | (go_at_call 56; (with_reducible refine (peek1_at HA hs).mono ?_); rintro e w9 ⟨rfl, rfl⟩) | (go_at_call 56; (with_reducible refine (peek2_at HA hs).mono ?_); rintro e w9 ⟨rfl, rfl⟩) | (go_at_call 56; (with_reducible refine (peek3_at HA hs).mono ?_); rintro e w9 ⟨rfl, rfl⟩) | (go_at_call 58; refine (isSpace_any _ _).mono ?_; rintro e w9 ⟨rfl, rfl⟩) | (go_at_call 61; refine (Continues_any _ _).mono ?_; rintro e w9 ⟨rfl, rfl⟩) | (go_at_call 62; refine (escapes_any _ _ _).mono ?_; rintro e w9 ⟨rfl, rfl⟩) | (go_at_call 64; refine (counts_any _ _ _ _).mono ?_; rintro e w9 ⟨rfl, rfl⟩) | (go_at_call 63; refine (identifies_any _ _ _ _).mono ?_; rintro e w9 ⟨rfl, rfl⟩))
  refine ((sign_c41 g s v op _ l0 HA.anew hs HC.out)).mono ?_
  rintro e w5 ⟨he, HA5⟩
  try unfold tokV at he
  rw [he]
  clear he
  have HA5 := HA.step HA5
  clear HA
  have HA := HA5
  clear HA5
  have hwb : w5.heap[w.heap.size]? = some tok0 := by rw [HA.block HS.out (by omega)]; exact HB.out
  have six' := six hwb
  obtain ⟨⟨c0, c1, c2, c3, c4, c5⟩, z0, z1, z2, z3, z4, z5⟩ := six'
  clear hwb
  go_wp2
  exact bodyPost_ret (v := tokV 8 0 0 0 false []) (by simp [results, Tryz.results48, go_sem, tokV, bstr_nil, c0, c1, c2, c3, c4, c5]) rfl ⟨rfl, by exact HA.put6 HKA.out hgl (Nat.le_refl _) _ _ _ _ _ _⟩

set_option maxHeartbeats 400000 in
theorem next_c58 (g : Nat) (s : ByteArray) (v : Value) (op : Bool) (K : Nat) (w : World) (l0 : Its) (h : At g s v w l0 op w) (hs : s.size ≤ 140737488355328) (hK : l0.length < K) (hc : pk l0 0 = 58) :
    Calls Tryz.prog 48 #[.pointer (some ⟨g, 0, none⟩)] w fun e w' => e = .returned (tokV 9 0 0 0 false []) ∧ Lo g s v w l0.tail op w' := by
  have HKK := Lib.hid hK
  have hgl := h.gl
  have HA := h.new tok0
  have HB := Lib.hid (alloc_tok w)
  have HKA := Lib.hid ((Kp.refl (fun k => k = g) w).alloc tok0)
  have HS := Lib.hid (Array.getElem?_eq_some_iff.1 (alloc_tok w)).1
  clear h hK
  have b0 := beq_f (a := pk l0 0) (b := -1) (by omega)
  have b1 : isSp (pk l0 0) = false := by simp [isSp, isNl, hc]
  have b2 := beq_f (a := pk l0 0) (b := 34) (by omega)
  have b3 := beq_f (a := pk l0 0) (b := 39) (by omega)
  have b4 := beq_f (a := pk l0 0) (b := 35) (by omega)
  have b5 := beq_f (a := pk l0 0) (b := 45) (by omega)
  have b6 := beq_f (a := pk l0 0) (b := 60) (by omega)
  have b7 := beq_f (a := pk l0 0) (b := 64) (by omega)
  have b8 : cnts (pk l0 0) (pk l0 1) (pk l0 2) = false := by simp [cnts, isDig, hc]
  have b9 : idents (pk l0 0) (pk l0 1) (pk l0 2) = false := by simp [idents, starts, escs, hc]
  have HC := Lib.hid hc
  clear hc
  go_enter Tryz.func48, Tryz.ntmps48
  go_wp2_with fail
  generalize w.alloc tok0 = w1 at *
  go_wp2_with (first | (go_at_call 56; (with_reducible refine (peek0_at HA hs).mono ?_); rintro e w9 ⟨rfl, rfl⟩) | (go_at_call 56; (with_reducible refine (peek1_at HA hs).mono ?_); rintro e w9 ⟨rfl, rfl⟩) | (go_at_call 56; (with_reducible refine (peek2_at HA hs).mono ?_); rintro e w9 ⟨rfl, rfl⟩) | (go_at_call 56; (with_reducible refine (peek3_at HA hs).mono ?_); rintro e w9 ⟨rfl, rfl⟩) | (go_at_call 58; refine (isSpace_any _ _).mono ?_; rintro e w9 ⟨rfl, rfl⟩) | (go_at_call 61; refine (Continues_any _ _).mono ?_; rintro e w9 ⟨rfl, rfl⟩) | (go_at_call 62; refine (escapes_any _ _ _).mono ?_; rintro e w9 ⟨rfl, rfl⟩) | (go_at_call 64; refine (counts_any _ _ _ _).mono ?_; rintro e w9 ⟨rfl, rfl⟩) | (go_at_call 63; refine (identifies_any _ _ _ _).mono ?_; rintro e w9 ⟨rfl, rfl⟩))
  refine ((sign_c58 g s v op _ l0 HA.anew hs HC.out)).mono ?_
  rintro e w5 ⟨he, HA5⟩
  try unfold tokV at he
  rw [he]
  clear he
  have HA5 := HA.step HA5
  clear HA
  have HA := HA5
  clear HA5
  have hwb : w5.heap[w.heap.size]? = some tok0 := by rw [HA.block HS.out (by omega)]; exact HB.out
  have six' := six hwb
  obtain ⟨⟨c0, c1, c2, c3, c4, c5⟩, z0, z1, z2, z3, z4, z5⟩ := six'
  clear hwb
  go_wp2
  exact bodyPost_ret (v := tokV 9 0 0 0 false []) (by simp [results, Tryz.results48, go_sem, tokV, bstr_nil, c0, c1, c2, c3, c4, c5]) rfl ⟨rfl, by exact HA.put6 HKA.out hgl (Nat.le_refl _) _ _ _ _ _ _⟩

set_option maxHeartbeats 400000 in
theorem next_c59 (g : Nat) (s : ByteArray) (v : Value) (op : Bool) (K : Nat) (w : World) (l0 : Its) (h : At g s v w l0 op w) (hs : s.size ≤ 140737488355328) (hK : l0.length < K) (hc : pk l0 0 = 59) :
    Calls Tryz.prog 48 #[.pointer (some ⟨g, 0, none⟩)] w fun e w' => e = .returned (tokV 35 0 0 0 false []) ∧ Lo g s v w l0.tail op w' := by
  have HKK := Lib.hid hK
  have hgl := h.gl
  have HA := h.new tok0
  have HB := Lib.hid (alloc_tok w)
  have HKA := Lib.hid ((Kp.refl (fun k => k = g) w).alloc tok0)
  have HS := Lib.hid (Array.getElem?_eq_some_iff.1 (alloc_tok w)).1
  clear h hK
  have b0 := beq_f (a := pk l0 0) (b := -1) (by omega)
  have b1 : isSp (pk l0 0) = false := by simp [isSp, isNl, hc]
  have b2 := beq_f (a := pk l0 0) (b := 34) (by omega)
  have b3 := beq_f (a := pk l0 0) (b := 39) (by omega)
  have b4 := beq_f (a := pk l0 0) (b := 35) (by omega)
  have b5 := beq_f (a := pk l0 0) (b := 45) (by omega)
  have b6 := beq_f (a := pk l0 0) (b := 60) (by omega)
  have b7 := beq_f (a := pk l0 0) (b := 64) (by omega)
  have b8 : cnts (pk l0 0) (pk l0 1) (pk l0 2) = false := by simp [cnts, isDig, hc]
  have b9 : idents (pk l0 0) (pk l0 1) (pk l0 2) = false := by simp [idents, starts, escs, hc]
  have HC := Lib.hid hc
  clear hc
  go_enter Tryz.func48, Tryz.ntmps48
  go_wp2_with fail
  generalize w.alloc tok0 = w1 at *
  go_wp2_with (first | (go_at_call 56; (with_reducible refine (peek0_at HA hs).mono ?_); rintro e w9 ⟨rfl, rfl⟩) | (go_at_call 56; (with_reducible refine (peek1_at HA hs).mono ?_); rintro e w9 ⟨rfl, rfl⟩) | (go_at_call 56; (with_reducible refine (peek2_at HA hs).mono ?_); rintro e w9 ⟨rfl, rfl⟩) | (go_at_call 56; (with_reducible refine (peek3_at HA hs).mono ?_); rintro e w9 ⟨rfl, rfl⟩) | (go_at_call 58; refine (isSpace_any _ _).mono ?_; rintro e w9 ⟨rfl, rfl⟩) | (go_at_call 61; refine (Continues_any _ _).mono ?_; rintro e w9 ⟨rfl, rfl⟩) | (go_at_call 62; refine (escapes_any _ _ _).mono ?_; rintro e w9 ⟨rfl, rfl⟩) | (go_at_call 64; refine (counts_any _ _ _ _).mono ?_; rintro e w9 ⟨rfl, rfl⟩) | (go_at_call 63; refine (identifies_any _ _ _ _).mono ?_; rintro e w9 ⟨rfl, rfl⟩))
  refine ((sign_c59 g s v op _ l0 HA.anew hs HC.out)).mono ?_
  rintro e w5 ⟨he, HA5⟩
  try unfold tokV at he
  rw [he]
  clear he
  have HA5 := HA.step HA5
  clear HA
  have HA := HA5
  clear HA5
  have hwb : w5.heap[w.heap.size]? = some tok0 := by rw [HA.block HS.out (by omega)]; exact HB.out
  have six' := six hwb
  obtain ⟨⟨c0, c1, c2, c3, c4, c5⟩, z0, z1, z2, z3, z4, z5⟩ := six'
  clear hwb
  go_wp2
  exact bodyPost_ret (v := tokV 35 0 0 0 false []) (by simp [results, Tryz.results48, go_sem, tokV, bstr_nil, c0, c1, c2, c3, c4, c5]) rfl ⟨rfl, by exact HA.put6 HKA.out hgl (Nat.le_refl _) _ _ _ _ _ _⟩

end Go.Proofs.YtkaejhdncohgpaaGreatFmt
