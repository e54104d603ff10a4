/- The reference's lexer: numeric. Condition: the text has at most 2^47 bytes. -/
import Derived.Test.YtkaejhdncohgpaaGreatFmtL6
import Derived.Test.YtkaejhdncohgpaaGreatFmtM1
import Derived.Deep.DeepCutAuto
import Derived.Deep.CutBlock
namespace Go.Proofs.YtkaejhdncohgpaaGreatFmt
set_option linter.all false
open Go.RowKit
set_option maxRecDepth 100000

theorem lft_wsum (s : ByteArray) (q : Nat) (hq : q ≤ s.size) : q = s.size - wsum (lft s q) ∧ wsum (lft s q) ≤ s.size := by
  have h1 := wsum_its _ (s.data.toList.drop q) (Nat.le_refl _)
  unfold lft
  simp at h1
  omega

/-- A lexer somewhere in a call, told by what is left. -/
def At (g : Nat) (s : ByteArray) (v : Value) (w0 : World) (l : Its) (o : Bool) (wr : World) : Prop := ∃ q, q ≤ s.size ∧ Hid (lft s q = l) ∧ Hid (Lx wr g s q v o) ∧ Hid (Kp (fun k => k = g) w0 wr)

theorem At.of {g : Nat} {s : ByteArray} {v : Value} {w0 wr : World} {l : Its} {o : Bool} (h : Lo g s v w0 l o wr) : At g s v w0 l o wr := by
  obtain ⟨q, h1, h2, h3, h4⟩ := h
  exact ⟨q, h1, h2, h3, h4⟩
theorem At.lo {g : Nat} {s : ByteArray} {v : Value} {w0 wr : World} {l : Its} {o : Bool} (h : At g s v w0 l o wr) : Lo g s v w0 l o wr := by
  obtain ⟨q, h1, h2, h3, h4⟩ := h
  exact ⟨q, h1, h2, h3, h4⟩
theorem At.step {g : Nat} {s : ByteArray} {v : Value} {w0 wr w' : World} {l l' : Its} {o o' : Bool} (h : At g s v w0 l o wr) (k : Lo g s v wr l' o' w') : At g s v w0 l' o' w' := by
  obtain ⟨q, h1, h2, h3, h4⟩ := h
  obtain ⟨q', k1, k2, k3, k4⟩ := k
  exact ⟨q', k1, k2, k3, h4.out.trans k4⟩
section
variable {g : Nat} {s : ByteArray} {v : Value} {w0 wr : World} {l : Its} {o : Bool}
theorem peek_at (k : Nat) (h : At g s v w0 l o wr) (hs : s.size ≤ 140737488355328) (hk : k ≤ 1000) : Calls Tryz.prog 56 #[.pointer (some ⟨g, 0, none⟩), .int .i64 k] wr fun e w' => e = .returned (.int .i64 (pk l k)) ∧ w' = wr := by
  obtain ⟨q, h1, h2, h3, h4⟩ := h
  exact (peek_any g s q v o k wr h3.out hs h1 hk).mono fun e w' h => ⟨by rw [h.1, h2.out], h.2⟩
theorem peek0_at (h : At g s v w0 l o wr) (hs : s.size ≤ 140737488355328) : Calls Tryz.prog 56 #[.pointer (some ⟨g, 0, none⟩), .int .i64 0] wr fun e w' => e = .returned (.int .i64 (pk l 0)) ∧ w' = wr := peek_at 0 h hs (by omega)
theorem peek1_at (h : At g s v w0 l o wr) (hs : s.size ≤ 140737488355328) : Calls Tryz.prog 56 #[.pointer (some ⟨g, 0, none⟩), .int .i64 1] wr fun e w' => e = .returned (.int .i64 (pk l 1)) ∧ w' = wr := peek_at 1 h hs (by omega)
theorem peek2_at (h : At g s v w0 l o wr) (hs : s.size ≤ 140737488355328) : Calls Tryz.prog 56 #[.pointer (some ⟨g, 0, none⟩), .int .i64 2] wr fun e w' => e = .returned (.int .i64 (pk l 2)) ∧ w' = wr := peek_at 2 h hs (by omega)
theorem peek3_at (h : At g s v w0 l o wr) (hs : s.size ≤ 140737488355328) : Calls Tryz.prog 56 #[.pointer (some ⟨g, 0, none⟩), .int .i64 3] wr fun e w' => e = .returned (.int .i64 (pk l 3)) ∧ w' = wr := peek_at 3 h hs (by omega)
theorem take_at (h : At g s v w0 l o wr) (hs : s.size ≤ 140737488355328) : Calls Tryz.prog 57 #[.pointer (some ⟨g, 0, none⟩)] wr fun e w' => e = .returned (.int .i64 (pk l 0)) ∧ At g s v w0 l.tail o w' := by
  have h' := h
  obtain ⟨q, h1, h2, h3, h4⟩ := h
  exact (take_any g s q v o wr h3.out hs h1).mono fun e w' k => ⟨by rw [k.1, h2.out], h'.step (by rw [← h2.out]; exact k.2)⟩
theorem newline_at (h : At g s v w0 l o wr) (hs : s.size ≤ 140737488355328) : Calls Tryz.prog 88 #[.pointer (some ⟨g, 0, none⟩)] wr fun e w' => e = .returned (.tuple #[]) ∧ At g s v w0 (newlM l) o w' := by
  have h' := h
  obtain ⟨q, h1, h2, h3, h4⟩ := h
  exact (newline_any g s q v o wr h3.out hs h1).mono fun e w' k => ⟨k.1, h'.step (by rw [← h2.out]; exact k.2)⟩
theorem spaces_at (h : At g s v w0 l o wr) (hs : s.size ≤ 140737488355328) : Calls Tryz.prog 59 #[.pointer (some ⟨g, 0, none⟩)] wr fun e w' => e = .returned (.tuple #[]) ∧ At g s v w0 (spM l) o w' := by
  have h' := h
  obtain ⟨q, h1, h2, h3, h4⟩ := h
  exact (spaces_any g s q v o wr h3.out hs h1).mono fun e w' k => ⟨k.1, h'.step (by rw [← h2.out]; exact k.2)⟩
theorem digits_at (h : At g s v w0 l o wr) (hs : s.size ≤ 140737488355328) : Calls Tryz.prog 91 #[.pointer (some ⟨g, 0, none⟩)] wr fun e w' => e = .returned (.tuple #[]) ∧ At g s v w0 (digM l) o w' := by
  have h' := h
  obtain ⟨q, h1, h2, h3, h4⟩ := h
  exact (digits_any g s q v o wr h3.out hs h1).mono fun e w' k => ⟨k.1, h'.step (by rw [← h2.out]; exact k.2)⟩
theorem escape_at (h : At g s v w0 l o wr) (hs : s.size ≤ 140737488355328) : Calls Tryz.prog 69 #[.pointer (some ⟨g, 0, none⟩)] wr fun e w' => e = .returned (.int .i64 (escM l).1) ∧ At g s v w0 (escM l).2.1 (o || (escM l).2.2) w' := by
  have h' := h
  obtain ⟨q, h1, h2, h3, h4⟩ := h
  exact (escape_any g s q v o wr h3.out hs h1).mono fun e w' k => ⟨by rw [k.1, h2.out], h'.step (by rw [← h2.out]; exact k.2)⟩
theorem name_at (K : Nat) (h : At g s v w0 l o wr) (hs : s.size ≤ 140737488355328) (hK : l.length < K) : Calls Tryz.prog 49 #[.pointer (some ⟨g, 0, none⟩)] wr fun e w' => e = .returned (.string (bstr (nameM K l [] o).1)) ∧ At g s v w0 (nameM K l [] o).2.1 (nameM K l [] o).2.2 w' := by
  have h' := h
  obtain ⟨q, h1, h2, h3, h4⟩ := h
  exact (name_any g s q v o K wr h3.out hs h1 (by rw [h2.out]; exact hK)).mono fun e w' k => ⟨by rw [k.1, h2.out], h'.step (by rw [← h2.out]; exact k.2)⟩
theorem quoted_at (K : Nat) (h : At g s v w0 l o wr) (hs : s.size ≤ 140737488355328) (hK : l.length < K) : Calls Tryz.prog 60 #[.pointer (some ⟨g, 0, none⟩)] wr fun e w' => e = .returned (tokV (quotM K (pk l 0) l.tail [] o).1 0 0 0 false (quotM K (pk l 0) l.tail [] o).2.1) ∧ At g s v w0 (quotM K (pk l 0) l.tail [] o).2.2.1 (quotM K (pk l 0) l.tail [] o).2.2.2 w' := by
  have h' := h
  obtain ⟨q, h1, h2, h3, h4⟩ := h
  exact (quoted_any g s q v o K wr h3.out hs h1 (by rw [h2.out]; exact hK)).mono fun e w' k => ⟨by rw [k.1, h2.out], h'.step (by rw [← h2.out]; exact k.2)⟩
theorem At.f (h : At g s v w0 l o wr) : wr.cell? ⟨g, 1, none⟩ = some (.int .i64 ((s.size - wsum l : Nat) : Int)) ∧ wr.cell? ⟨g, 3, none⟩ = some (.bool o) ∧ wr.frozen? ⟨g, 1, none⟩ = false ∧ wr.frozen? ⟨g, 3, none⟩ = false ∧ wsum l ≤ s.size := by
  obtain ⟨q, h1, h2, h3, h4⟩ := h
  have hw := lft_wsum s q h1
  rw [h2.out] at hw
  have hf := h3.out.f
  rw [← hw.1]
  exact ⟨hf.2.1, hf.2.2.2.1, hf.2.2.2.2.1, hf.2.2.2.2.2.2, hw.2⟩
theorem At.opn (h : At g s v w0 l o wr) (b : Bool) : At g s v w0 l b (wr.setCell ⟨g, 3, none⟩ (.bool b)) := by
  obtain ⟨q, h1, h2, h3, h4⟩ := h
  exact ⟨q, h1, h2, h3.out.opn b, h4.out.cell 3 _⟩
/-- Back to an elder place. -/
theorem At.back {l' : Its} {w1 : World} {o' : Bool} (h : At g s v w0 l o wr) (k : At g s v w1 l' o' w1) : At g s v w0 l' o (wr.setCell ⟨g, 1, none⟩ (.int .i64 ((s.size - wsum l' : Nat) : Int))) := by
  obtain ⟨q, h1, h2, h3, h4⟩ := h
  obtain ⟨q', k1, k2, k3, k4⟩ := k
  have hw := lft_wsum s q' k1
  rw [k2.out] at hw
  exact ⟨q', k1, k2, h3.out.at q' _ (by rw [hw.1]), h4.out.cell 1 _⟩
theorem At.len (h : At g s v w0 l o wr) : l.length ≤ s.size := by
  obtain ⟨q, h1, h2, h3, h4⟩ := h
  have := lft_len s q h1
  rw [h2.out] at this; omega
theorem At.rng (h : At g s v w0 l o wr) (k : Nat) : -2 ≤ pk l k ∧ pk l k ≤ 1114111 := by
  obtain ⟨q, h1, h2, h3, h4⟩ := h
  have := pk_range s q k h1
  rwa [h2.out] at this
theorem At.block {k : Nat} (h : At g s v w0 l o wr) (hk : k < w0.heap.size) (hg : k ≠ g) : wr.heap[k]? = w0.heap[k]? := by
  obtain ⟨q, h1, h2, h3, h4⟩ := h
  exact h4.out.block k hk hg
theorem At.put6 {w : World} {b : Nat} (h : At g s v w0 l o wr) (ha : Kp (fun k => k = g) w w0) (hg : g < w.heap.size) (hb : w.heap.size ≤ b) (a0 a1 a2 a3 a4 a5 : Value) : Lo g s v w l o (YtkaejhdncohgpaaGreatFmt.put6 wr b a0 a1 a2 a3 a4 a5) := by
  obtain ⟨q, h1, h2, h3, h4⟩ := h
  exact Lo.put6 h1 h2.out h3.out ha h4.out hg hb a0 a1 a2 a3 a4 a5
end

set_option maxHeartbeats 1000000 in
theorem numeric_core (g : Nat) (s : ByteArray) (v : Value) (op : Bool) (K : Nat) (w : World) (l0 : Its) (h : At g s v w l0 op w) (hs : s.size ≤ 140737488355328) (hK : l0.length < K) :
    Calls Tryz.prog 65 #[.pointer (some ⟨g, 0, none⟩)] w fun e w' => e = .returned (tokV (numM K l0 op).1 0 0 (numM K l0 op).2.1 false []) ∧ Lo g s v w (numM K l0 op).2.2.1 (numM K l0 op).2.2.2 w' := by
  obtain ⟨f1, f3, z1, z3, hw0⟩ := h.f
  have HKK := Lib.hid hK
  have hgl : g < w.heap.size := by obtain ⟨q, h1, h2, h3, h4⟩ := h; exact Lx.lt h3.out
  have HA : At g s v (w.alloc tok0) l0 op (w.alloc tok0) := by
    obtain ⟨q, h1, h2, h3, h4⟩ := h
    exact ⟨q, h1, h2, h3.out.kp ((Kp.refl (fun _ => False) w).alloc tok0) (fun h => h), Kp.refl _ _⟩
  have HB := Lib.hid (alloc_tok w)
  have HKA := Lib.hid ((Kp.refl (fun k => k = g) w).alloc tok0)
  have HS := Lib.hid (Array.getElem?_eq_some_iff.1 (alloc_tok w)).1
  clear h hK
  go_enter Tryz.func65, Tryz.ntmps65
  go_wp2_with fail
  generalize w.alloc tok0 = w1 at *
  clear f1 f3 z1 z3
  refine (peek0_at HA hs).mono ?_
  rintro e w2 ⟨rfl, hw⟩
  rw [hw]
  clear hw w2
  go_upto_region 3 with fail
  go_cut [19] (fun t wr => t = .bool ((pk l0 0 == 43) || (pk l0 0 == 45)) ∧ w1 = wr)
  case first =>
    cases b1 : (pk l0 0 == 43) <;> cases b2 : (pk l0 0 == 45)
    all_goals (go_wp2_with fail; go_meet; exact ⟨by rw [b1, b2]; rfl, rfl⟩)
  case rest =>
    obtain ⟨rfl, rfl⟩ := hcut
    go_upto_if 19 with fail
    go_cut [] (fun wr => At g s v w1 (signM l0) op wr)
    case first =>
      have hsg : ((pk l0 0 == 43) || (pk l0 0 == 45)) = decide (pk l0 0 = 43 ∨ pk l0 0 = 45) := by rw [Bool.eq_iff_iff]; simp
      cases b : ((pk l0 0 == 43) || (pk l0 0 == 45)) with
      | true =>
        rw [b] at hsg
        have HSG := Lib.hid (of_decide_eq_true hsg.symm)
        clear hsg
        go_wp2_with fail
        refine (take_at HA hs).mono ?_
        rintro e w3 ⟨rfl, HA1⟩
        go_wp2_with fail
        go_meet
        rw [signM, if_pos HSG.out]; exact HA1
      | false =>
        rw [b] at hsg
        have HSG := Lib.hid (of_decide_eq_false hsg.symm)
        clear hsg
        go_wp2_with fail
        go_meet
        rw [signM, if_neg HSG.out]; exact HA
    case rest =>
      clear HA
      have HA := hcut
      clear hcut
      go_wp2_with fail
      refine (digits_at HA hs).mono ?_
      rintro e w3 ⟨rfl, HA1⟩
      have HT := Lib.hid (Nat.le_trans (digM_le (signM l0)) (signM_le l0))
      have HDEF : numM K l0 op = (let r := fracM (digM (signM l0)) op
        let l4 := expM r.1
        if idents (pk l4 0) (pk l4 1) (pk l4 2) then (26, wsum l0 - wsum l4, (nameM K l4 [] r.2).2.1, (nameM K l4 [] r.2).2.2)
        else if pk l4 0 = 37 then (34, 0, l4.tail, r.2) else (30, 0, l4, r.2)) := rfl
      have HD := Lib.hid HDEF
      have HW := Lib.hid (wsum_num l0 op)
      clear HA HDEF
      generalize digM (signM l0) = l1 at *
      go_upto_region 6 with fail
      go_cut [31] (fun t wr => t = .bool ((pk l1 0 == 46) && isDig (pk l1 1)) ∧ w3 = wr)
      case first =>
        cases b1 : (pk l1 0 == 46) <;> cases b2 : isDig (pk l1 1)
        all_goals
          have B2 := Lib.hid b2
          clear b2
          go_wp2_with (first | (go_at_call 56; (with_reducible refine (peek0_at HA1 hs).mono ?_); rintro e w9 ⟨rfl, rfl⟩) | (go_at_call 56; (with_reducible refine (peek1_at HA1 hs).mono ?_); rintro e w9 ⟨rfl, rfl⟩) | (go_at_call 90; refine (isDigit_any _ _).mono ?_; rintro e w9 ⟨rfl, rfl⟩))
          go_meet
          exact ⟨by rw [b1, B2.out]; rfl, rfl⟩
      case rest =>
        obtain ⟨rfl, rfl⟩ := hcut
        go_upto_if 31 with fail
        go_cut [] (fun wr => At g s v w1 (fracM l1 op).1 (fracM l1 op).2 wr)
        case first =>
          by_cases q1 : pk l1 0 = 46
          · have b1 : (pk l1 0 == 46) = true := by simp [q1]
            cases b2 : isDig (pk l1 1) with
            | true =>
              have E : Hid (fracM l1 op = (digM l1.tail, op)) := Lib.hid (by rw [fracM, if_pos ⟨q1, b2⟩])
              clear q1
              rw [b1, Bool.true_and]
              go_wp2_with fail
              refine (take_at HA1 hs).mono ?_
              rintro e w4 ⟨rfl, HA2⟩
              go_wp2_with fail
              refine (digits_at HA2 hs).mono ?_
              rintro e w5 ⟨rfl, HA3⟩
              go_wp2_with fail
              go_meet
              rw [E.out]; exact HA3
            | false =>
              have E : Hid (fracM l1 op = (l1, true)) := Lib.hid (by rw [fracM, if_neg (by rintro ⟨_, h⟩; rw [b2] at h; cases h)]; simp [q1])
              have c3 := HA1.f.2.1
              have z3 := HA1.f.2.2.2.1
              clear q1
              rw [b1, Bool.true_and]
              go_wp2_with (go_at_call 56; (with_reducible refine (peek0_at HA1 hs).mono ?_); rintro e w9 ⟨rfl, rfl⟩)
              go_meet
              rw [E.out]; exact HA1.opn true
          · have b1 : (pk l1 0 == 46) = false := by simp [q1]
            have E : Hid (fracM l1 op = (l1, op)) := Lib.hid (by rw [fracM, if_neg (by rintro ⟨h, _⟩; exact q1 h)]; simp [q1])
            clear q1
            rw [show ((pk l1 0 == 46) && isDig (pk l1 1)) = false from by rw [b1]; rfl]
            go_wp2_with (go_at_call 56; (with_reducible refine (peek0_at HA1 hs).mono ?_); rintro e w9 ⟨rfl, rfl⟩)
            go_meet
            rw [E.out]; exact HA1
        case rest =>
          clear HA1
          have HA1 := hcut
          clear hcut
          have HT2 := Lib.hid (Nat.le_trans (fracM_le l1 op) HT.out)
          clear HT
          generalize fracM l1 op = r at *
          obtain ⟨l3, o3⟩ := r
          go_wp2_with fail
          refine (peek0_at HA1 hs).mono ?_
          rintro e w4 ⟨rfl, hw⟩
          rw [hw]
          clear hw w4
          obtain ⟨w4, rfl⟩ : ∃ w4, w4 = wc := ⟨_, rfl⟩
          go_upto_region 12 with fail
          go_cut [49] (fun t wr => t = .bool ((pk l3 0 == 101) || (pk l3 0 == 69)) ∧ w4 = wr)
          case first =>
            cases b1 : (pk l3 0 == 101) <;> cases b2 : (pk l3 0 == 69)
            all_goals (go_wp2_with fail; go_meet; exact ⟨by rw [b1, b2]; rfl, rfl⟩)
          case rest =>
            obtain ⟨rfl, rfl⟩ := hcut
            go_upto_if 49 with fail
            go_cut [] (fun wr => At g s v w1 (expM l3) o3 wr)
            case first =>
              have hE : ((pk l3 0 == 101) || (pk l3 0 == 69)) = decide (pk l3 0 = 101 ∨ pk l3 0 = 69) := by rw [Bool.eq_iff_iff]; simp
              cases b : ((pk l3 0 == 101) || (pk l3 0 == 69)) with
              | false =>
                have E : Hid (expM l3 = l3) := Lib.hid (by rw [expM, if_neg]; rw [isExp, ← hE, b]; simp)
                clear hE
                go_wp2_with fail
                go_meet
                rw [E.out]; exact HA1
              | true =>
                have hX : isExp l3 = (isDig (pk l3 1) || (((pk l3 1 == 43) || (pk l3 1 == 45)) && isDig (pk l3 2))) := by
                  rw [isExp, ← hE, b, Bool.true_and]
                  have : ((pk l3 1 == 43) || (pk l3 1 == 45)) = decide (pk l3 1 = 43 ∨ pk l3 1 = 45) := by rw [Bool.eq_iff_iff]; simp
                  rw [this]
                have HX := Lib.hid hX
                clear hE hX
                cases d1 : isDig (pk l3 1) <;> cases d2 : (pk l3 1 == 43) <;> cases d3 : (pk l3 1 == 45) <;> cases d4 : isDig (pk l3 2)
                all_goals
                  have D1 := Lib.hid d1
                  have D4 := Lib.hid d4
                  go_wp2_with (first | (go_at_call 56; (with_reducible refine (peek0_at HA1 hs).mono ?_); rintro e w9 ⟨rfl, rfl⟩) | (go_at_call 56; (with_reducible refine (peek1_at HA1 hs).mono ?_); rintro e w9 ⟨rfl, rfl⟩) | (go_at_call 56; (with_reducible refine (peek2_at HA1 hs).mono ?_); rintro e w9 ⟨rfl, rfl⟩) | (go_at_call 90; refine (isDigit_any _ _).mono ?_; rintro e w9 ⟨rfl, rfl⟩))
                  first
                  | (go_meet; rw [expM, HX.out, D1.out, d2, d3, D4.out]; exact HA1)
                  | (refine (take_at HA1 hs).mono ?_
                     rintro e w5 ⟨rfl, HA2⟩
                     go_wp2_with fail
                     refine (take_at HA2 hs).mono ?_
                     rintro e w6 ⟨rfl, HA3⟩
                     go_wp2_with fail
                     refine (digits_at HA3 hs).mono ?_
                     rintro e w7 ⟨rfl, HA4⟩
                     go_wp2_with fail
                     go_meet
                     rw [expM, HX.out, D1.out, d2, d3, D4.out]; exact HA4)
            case rest =>
              clear HA1
              have HA := hcut
              clear hcut
              have HD2 : Hid (numM K l0 op = (if idents (pk (expM l3) 0) (pk (expM l3) 1) (pk (expM l3) 2) then (26, wsum l0 - wsum (expM l3), (nameM K (expM l3) [] o3).2.1, (nameM K (expM l3) [] o3).2.2)
                else if pk (expM l3) 0 = 37 then (34, 0, (expM l3).tail, o3) else (30, 0, expM l3, o3))) := HD
              have hw4 : wsum (expM l3) ≤ wsum l0 := HW.out
              have HT3 : Hid ((expM l3).length ≤ l0.length) := Lib.hid (Nat.le_trans (expM_le l3) HT2.out)
              clear HD HW HT2
              generalize expM l3 = l4 at *
              have f1 := HA.f.1
              cases hid : idents (pk l4 0) (pk l4 1) (pk l4 2) with
              | true =>
                have HI := Lib.hid hid
                go_wp2_with (first | (go_at_call 56; (with_reducible refine (peek0_at HA hs).mono ?_); rintro e w9 ⟨rfl, rfl⟩) | (go_at_call 56; (with_reducible refine (peek1_at HA hs).mono ?_); rintro e w9 ⟨rfl, rfl⟩) | (go_at_call 56; (with_reducible refine (peek2_at HA hs).mono ?_); rintro e w9 ⟨rfl, rfl⟩) | (go_at_call 63; refine (identifies_any _ _ _ _).mono ?_; rintro e w9 ⟨rfl, rfl⟩))
                refine (name_at K HA hs (by have := HKK.out; have := HT3.out; omega)).mono ?_
                rintro e w5 ⟨rfl, HA5⟩
                clear HA f1
                have HA := HA5
                have hwb : w5.heap[w.heap.size]? = some tok0 := by rw [HA.block HS.out (by omega)]; exact HB.out
                have six' := six hwb
                obtain ⟨⟨c0, c1, c2, c3, c4, c5⟩, z0, z1, z2, z3, z4, z5⟩ := six'
                clear hwb
                go_wp2
                have hun : (((s.size - wsum l4 : Nat) : Int) - ((s.size - wsum l0 : Nat) : Int)) = ((wsum l0 - wsum l4 : Nat) : Int) := by omega
                exact bodyPost_ret (v := tokV 26 0 0 (((s.size - wsum l4 : Nat) : Int) - ((s.size - wsum l0 : Nat) : Int)) false []) (by simp [results, Tryz.results65, go_sem, tokV, bstr_nil, c0, c1, c2, c3, c4, c5]) rfl ⟨by rw [HD2.out, if_pos HI.out, hun], by rw [HD2.out, if_pos HI.out]; exact HA.put6 HKA.out hgl (Nat.le_refl _) _ _ _ _ _ _⟩
              | false =>
                have HI : Hid (¬ idents (pk l4 0) (pk l4 1) (pk l4 2) = true) := Lib.hid (by rw [hid]; simp)
                by_cases h37 : pk l4 0 = 37
                · have b37 : (pk l4 0 == 37) = true := by simp [h37]
                  have H37 := Lib.hid h37
                  clear h37
                  go_wp2_with (first | (go_at_call 56; (with_reducible refine (peek0_at HA hs).mono ?_); rintro e w9 ⟨rfl, rfl⟩) | (go_at_call 56; (with_reducible refine (peek1_at HA hs).mono ?_); rintro e w9 ⟨rfl, rfl⟩) | (go_at_call 56; (with_reducible refine (peek2_at HA hs).mono ?_); rintro e w9 ⟨rfl, rfl⟩) | (go_at_call 63; refine (identifies_any _ _ _ _).mono ?_; rintro e w9 ⟨rfl, rfl⟩))
                  refine (take_at HA hs).mono ?_
                  rintro e w5 ⟨rfl, HA5⟩
                  clear HA f1
                  have HA := HA5
                  have hwb : w5.heap[w.heap.size]? = some tok0 := by rw [HA.block HS.out (by omega)]; exact HB.out
                  have six' := six hwb
                  obtain ⟨⟨c0, c1, c2, c3, c4, c5⟩, z0, z1, z2, z3, z4, z5⟩ := six'
                  clear hwb
                  go_wp2
                  exact bodyPost_ret (v := tokV 34 0 0 0 false []) (by simp [results, Tryz.results65, go_sem, tokV, bstr_nil, c0, c1, c2, c3, c4, c5]) rfl ⟨by rw [HD2.out, if_neg HI.out, if_pos H37.out]; rfl, by rw [HD2.out, if_neg HI.out, if_pos H37.out]; exact HA.put6 HKA.out hgl (Nat.le_refl _) _ _ _ _ _ _⟩
                · have b37 : (pk l4 0 == 37) = false := by simp [h37]
                  have H37 := Lib.hid h37
                  clear h37
                  have hwb : wc.heap[w.heap.size]? = some tok0 := by rw [HA.block HS.out (by omega)]; exact HB.out
                  have six' := six hwb
                  obtain ⟨⟨c0, c1, c2, c3, c4, c5⟩, z0, z1, z2, z3, z4, z5⟩ := six'
                  clear hwb
                  go_wp2_with (first | (go_at_call 56; (with_reducible refine (peek0_at HA hs).mono ?_); rintro e w9 ⟨rfl, rfl⟩) | (go_at_call 56; (with_reducible refine (peek1_at HA hs).mono ?_); rintro e w9 ⟨rfl, rfl⟩) | (go_at_call 56; (with_reducible refine (peek2_at HA hs).mono ?_); rintro e w9 ⟨rfl, rfl⟩) | (go_at_call 63; refine (identifies_any _ _ _ _).mono ?_; rintro e w9 ⟨rfl, rfl⟩))
                  exact bodyPost_ret (v := tokV 30 0 0 0 false []) (by simp [results, Tryz.results65, go_sem, tokV, bstr_nil, c0, c1, c2, c3, c4, c5]) rfl ⟨by rw [HD2.out, if_neg HI.out, if_neg H37.out]; rfl, by rw [HD2.out, if_neg HI.out, if_neg H37.out]; exact HA.put6 HKA.out hgl (Nat.le_refl _) _ _ _ _ _ _⟩

end Go.Proofs.YtkaejhdncohgpaaGreatFmt
