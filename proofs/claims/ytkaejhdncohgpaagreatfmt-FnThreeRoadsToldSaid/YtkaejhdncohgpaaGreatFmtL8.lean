/- The reference's lexer: sign, named, and the ways of next. Condition: the text has at most 2^47 bytes. -/
import Derived.Test.YtkaejhdncohgpaaGreatFmtL7
import Derived.Test.YtkaejhdncohgpaaGreatFmtM1
namespace Go.Proofs.YtkaejhdncohgpaaGreatFmt
set_option linter.all false
open Go.RowKit
set_option maxRecDepth 100000

theorem At.gl {g : Nat} {s : ByteArray} {v : Value} {w0 wr : World} {l : Its} {o : Bool} (h : At g s v w0 l o wr) : g < wr.heap.size := by
  obtain ⟨q, h1, h2, h3, h4⟩ := h
  exact Lx.lt h3.out
theorem At.new {g : Nat} {s : ByteArray} {v : Value} {w0 w : World} {l : Its} {o : Bool} (h : At g s v w0 l o w) (x : Obj) : At g s v (w.alloc x) l o (w.alloc x) := by
  obtain ⟨q, h1, h2, h3, h4⟩ := h
  exact ⟨q, h1, h2, h3.out.kp ((Kp.refl (fun _ => False) w).alloc x) (fun h => h), Kp.refl _ _⟩
theorem At.anew {g : Nat} {s : ByteArray} {v : Value} {w0 w : World} {l : Its} {o : Bool} (h : At g s v w0 l o w) : At g s v w l o w := by
  obtain ⟨q, h1, h2, h3, h4⟩ := h
  exact ⟨q, h1, h2, h3, Kp.refl _ _⟩

theorem isURL_any (l : List UInt8) (w : World) : Calls Tryz.prog 23 #[.string (bstr l)] w fun e w' => e = .returned (.bool (isUrlB l)) ∧ w' = w := by
  by_cases h3 : l.length = 3
  · match l, h3 with
    | [a, b, c], _ =>
      have hl : (bstr [a, b, c]).size = 3 := rfl
      have e0 : (bstr [a, b, c])[0] = a := rfl
      have e1 : (bstr [a, b, c])[1] = b := rfl
      have e2 : (bstr [a, b, c])[2] = c := rfl
      cases a1 : (((a.toNat : Nat) : Int) == 117) <;> cases a2 : (((a.toNat : Nat) : Int) == 85) <;> cases b1 : (((b.toNat : Nat) : Int) == 114) <;> cases b2 : (((b.toNat : Nat) : Int) == 82) <;> cases c1 : (((c.toNat : Nat) : Int) == 108) <;> cases c2 : (((c.toNat : Nat) : Int) == 76)
      all_goals
        go_enter Tryz.func23, Tryz.ntmps23
        go_wp2
        go_ret
        exact ⟨ret_bool (by simp at a1 a2 b1 b2 c1 c2; simp [isUrlB]; omega), rfl⟩
  · have hl : (bstr l).size ≠ 3 := by rw [bstr_size]; exact h3
    have hn : isUrlB l = false := by
      unfold isUrlB
      split
      · exact absurd rfl h3
      · rfl
    have HN := Lib.hid hn
    clear hn
    have hb : (((bstr l).size : Int) == 3) = false := by simp; omega
    go_enter Tryz.func23, Tryz.ntmps23
    go_wp2
    go_ret
    exact ⟨ret_bool (by rw [HN.out]), rfl⟩
theorem sign_c41 (g : Nat) (s : ByteArray) (v : Value) (op : Bool) (w : World) (l0 : Its) (h : At g s v w l0 op w) (hs : s.size ≤ 140737488355328) (hc : pk l0 0 = 41) :
    Calls Tryz.prog 67 #[.pointer (some ⟨g, 0, none⟩)] w fun e w' => e = .returned (tokV 8 0 0 0 false []) ∧ Lo g s v w l0.tail op w' := by
  have hgl := h.gl
  have HA := h.new tok0
  have HB := Lib.hid (alloc_tok w)
  have HKA := Lib.hid ((Kp.refl (fun k => k = g) w).alloc tok0)
  have HS := Lib.hid (Array.getElem?_eq_some_iff.1 (alloc_tok w)).1
  clear h
  go_enter Tryz.func67, Tryz.ntmps67
  go_wp2_with fail
  generalize w.alloc tok0 = w1 at *
  refine (take_at HA hs).mono ?_
  rintro e w5 ⟨rfl, HA5⟩
  clear HA
  have HA := HA5
  have hwb : w5.heap[w.heap.size]? = some tok0 := by rw [HA.block HS.out (by omega)]; exact HB.out
  have six' := six hwb
  obtain ⟨⟨c0, c1, c2, c3, c4, c5⟩, z0, z1, z2, z3, z4, z5⟩ := six'
  clear hwb
  rw [hc]
  go_wp2
  exact bodyPost_ret (v := tokV 8 0 0 0 false []) (by simp [results, Tryz.results67, go_sem, tokV, bstr_nil, c0, c1, c2, c3, c4, c5]) rfl ⟨rfl, by exact HA.put6 HKA.out hgl (Nat.le_refl _) _ _ _ _ _ _⟩

theorem sign_c58 (g : Nat) (s : ByteArray) (v : Value) (op : Bool) (w : World) (l0 : Its) (h : At g s v w l0 op w) (hs : s.size ≤ 140737488355328) (hc : pk l0 0 = 58) :
    Calls Tryz.prog 67 #[.pointer (some ⟨g, 0, none⟩)] w fun e w' => e = .returned (tokV 9 0 0 0 false []) ∧ Lo g s v w l0.tail op w' := by
  have hgl := h.gl
  have HA := h.new tok0
  have HB := Lib.hid (alloc_tok w)
  have HKA := Lib.hid ((Kp.refl (fun k => k = g) w).alloc tok0)
  have HS := Lib.hid (Array.getElem?_eq_some_iff.1 (alloc_tok w)).1
  clear h
  go_enter Tryz.func67, Tryz.ntmps67
  go_wp2_with fail
  generalize w.alloc tok0 = w1 at *
  refine (take_at HA hs).mono ?_
  rintro e w5 ⟨rfl, HA5⟩
  clear HA
  have HA := HA5
  have hwb : w5.heap[w.heap.size]? = some tok0 := by rw [HA.block HS.out (by omega)]; exact HB.out
  have six' := six hwb
  obtain ⟨⟨c0, c1, c2, c3, c4, c5⟩, z0, z1, z2, z3, z4, z5⟩ := six'
  clear hwb
  rw [hc]
  go_wp2
  exact bodyPost_ret (v := tokV 9 0 0 0 false []) (by simp [results, Tryz.results67, go_sem, tokV, bstr_nil, c0, c1, c2, c3, c4, c5]) rfl ⟨rfl, by exact HA.put6 HKA.out hgl (Nat.le_refl _) _ _ _ _ _ _⟩

theorem sign_c59 (g : Nat) (s : ByteArray) (v : Value) (op : Bool) (w : World) (l0 : Its) (h : At g s v w l0 op w) (hs : s.size ≤ 140737488355328) (hc : pk l0 0 = 59) :
    Calls Tryz.prog 67 #[.pointer (some ⟨g, 0, none⟩)] w fun e w' => e = .returned (tokV 35 0 0 0 false []) ∧ Lo g s v w l0.tail op w' := by
  have hgl := h.gl
  have HA := h.new tok0
  have HB := Lib.hid (alloc_tok w)
  have HKA := Lib.hid ((Kp.refl (fun k => k = g) w).alloc tok0)
  have HS := Lib.hid (Array.getElem?_eq_some_iff.1 (alloc_tok w)).1
  clear h
  go_enter Tryz.func67, Tryz.ntmps67
  go_wp2_with fail
  generalize w.alloc tok0 = w1 at *
  refine (take_at HA hs).mono ?_
  rintro e w5 ⟨rfl, HA5⟩
  clear HA
  have HA := HA5
  have hwb : w5.heap[w.heap.size]? = some tok0 := by rw [HA.block HS.out (by omega)]; exact HB.out
  have six' := six hwb
  obtain ⟨⟨c0, c1, c2, c3, c4, c5⟩, z0, z1, z2, z3, z4, z5⟩ := six'
  clear hwb
  rw [hc]
  go_wp2
  exact bodyPost_ret (v := tokV 35 0 0 0 false []) (by simp [results, Tryz.results67, go_sem, tokV, bstr_nil, c0, c1, c2, c3, c4, c5]) rfl ⟨rfl, by exact HA.put6 HKA.out hgl (Nat.le_refl _) _ _ _ _ _ _⟩

theorem named_ident (g : Nat) (s : ByteArray) (v : Value) (op : Bool) (K : Nat) (w : World) (l0 : Its) (h : At g s v w l0 op w) (hs : s.size ≤ 140737488355328) (hK : l0.length < K) (nm : List UInt8) (l1 : Its) (o1 : Bool) (HN : Hid (nameM K l0 [] op = (nm, l1, o1))) (hc : (pk l1 0 != 40) = true) :
    Calls Tryz.prog 66 #[.pointer (some ⟨g, 0, none⟩)] w fun e w' => e = .returned (tokV 29 0 0 0 false nm) ∧ Lo g s v w l1 o1 w' := by
  obtain ⟨f1, f3, z1, z3, hw0⟩ := h.f
  have HKK := Lib.hid hK
  have hgl := h.gl
  have HA := h.new tok0
  have HB := Lib.hid (alloc_tok w)
  have HKA := Lib.hid ((Kp.refl (fun k => k = g) w).alloc tok0)
  have HS := Lib.hid (Array.getElem?_eq_some_iff.1 (alloc_tok w)).1
  clear h hK z1 z3
  go_enter Tryz.func66, Tryz.ntmps66
  go_wp2_with fail
  generalize w.alloc tok0 = w1 at *
  clear f1 f3
  refine (name_at K HA hs HKK.out).mono ?_
  rintro e w5 ⟨rfl, HA5⟩
  rw [HN.out] at HA5 ⊢
  clear HA
  have HA := HA5
  clear HA5
  obtain ⟨f1, f3, z1', z3', hw1⟩ := HA.f
  clear f3 z1' z3'
  have hwb : w5.heap[w.heap.size]? = some tok0 := by rw [HA.block HS.out (by omega)]; exact HB.out
  have six' := six hwb
  obtain ⟨⟨c0, c1, c2, c3, c4, c5⟩, z0, z1, z2, z3, z4, z5⟩ := six'
  clear hwb
  go_wp2_with (go_at_call 56; (with_reducible refine (peek0_at HA hs).mono ?_); rintro e w9 ⟨rfl, rfl⟩)
  exact bodyPost_ret (v := tokV 29 0 0 0 false nm) (by simp [results, Tryz.results66, go_sem, tokV, bstr_nil, c0, c1, c2, c3, c4, c5]) rfl ⟨rfl, by exact HA.put6 HKA.out hgl (Nat.le_refl _) _ _ _ _ _ _⟩

theorem named_func (g : Nat) (s : ByteArray) (v : Value) (op : Bool) (K : Nat) (w : World) (l0 : Its) (h : At g s v w l0 op w) (hs : s.size ≤ 140737488355328) (hK : l0.length < K) (nm : List UInt8) (l1 : Its) (o1 : Bool) (HN : Hid (nameM K l0 [] op = (nm, l1, o1))) (hc : pk l1 0 = 40) (hu : isUrlB nm = false) :
    Calls Tryz.prog 66 #[.pointer (some ⟨g, 0, none⟩)] w fun e w' => e = .returned (tokV 27 0 0 0 false nm) ∧ Lo g s v w l1.tail o1 w' := by
  obtain ⟨f1, f3, z1, z3, hw0⟩ := h.f
  have HKK := Lib.hid hK
  have hgl := h.gl
  have HA := h.new tok0
  have HB := Lib.hid (alloc_tok w)
  have HKA := Lib.hid ((Kp.refl (fun k => k = g) w).alloc tok0)
  have HS := Lib.hid (Array.getElem?_eq_some_iff.1 (alloc_tok w)).1
  clear h hK z1 z3
  have hc' : (pk l1 0 != 40) = false := by simp [hc]
  have HC := Lib.hid hc
  clear hc
  go_enter Tryz.func66, Tryz.ntmps66
  go_wp2_with fail
  generalize w.alloc tok0 = w1 at *
  clear f1 f3
  refine (name_at K HA hs HKK.out).mono ?_
  rintro e w5 ⟨rfl, HA5⟩
  rw [HN.out] at HA5 ⊢
  clear HA
  have HA := HA5
  clear HA5
  obtain ⟨f1, f3, z1', z3', hw1⟩ := HA.f
  clear f3 z1' z3'
  go_wp2_with (go_at_call 56; (with_reducible refine (peek0_at HA hs).mono ?_); rintro e w9 ⟨rfl, rfl⟩)
  refine (take_at HA hs).mono ?_
  rintro e w6 ⟨rfl, HA6⟩
  clear HA f1
  have HA := HA6
  clear HA6
  have hwb : w6.heap[w.heap.size]? = some tok0 := by rw [HA.block HS.out (by omega)]; exact HB.out
  have six' := six hwb
  obtain ⟨⟨c0, c1, c2, c3, c4, c5⟩, z0, z1, z2, z3, z4, z5⟩ := six'
  clear hwb
  go_wp2_with (go_at_call 23; refine (isURL_any _ _).mono ?_; rintro e w9 ⟨rfl, rfl⟩)
  exact bodyPost_ret (v := tokV 27 0 0 0 false nm) (by simp [results, Tryz.results66, go_sem, tokV, bstr_nil, c0, c1, c2, c3, c4, c5]) rfl ⟨rfl, by exact HA.put6 HKA.out hgl (Nat.le_refl _) _ _ _ _ _ _⟩

end Go.Proofs.YtkaejhdncohgpaaGreatFmt
