/- Walk: bestQuoteCharForString (not for an address). -/
import Derived.Test.YtkaejhdncohgpaaGreatFmtM8
namespace Go.Proofs.YtkaejhdncohgpaaGreatFmt
set_option linter.all false
open Go.RowKit Go.Lib
set_option maxRecDepth 100000
set_option maxHeartbeats 4000000

/-- The state of the loop that counts quotes: e escapes, u for an address. -/
structure BqS (s : ByteArray) (cs : List Int) (w : World) (ib : Nat) (x5 x6 x7 : Value) (wr : World) (dn rs : List Int) (u e : Nat) : Prop where
  eq : dn ++ rs = cs
  it : wr.heap[ib]? = some (.stringIter s (encs dn).length)
  kp : Kp (fun _ => False) w wr
  a5 : x5 = .int .i64 u
  a6 : ∃ k6 : Nat, x6 = .int .i64 (2 + (k6 : Int)) ∧ k6 = dn.count 39 + e
  a7 : ∃ k7 : Nat, x7 = .int .i64 (2 + (k7 : Int)) ∧ k7 = dn.count 34 + e
  lu : u ≤ dn.length
  le : e ≤ dn.length
theorem BqS.stop {s : ByteArray} {cs : List Int} {w : World} {ib : Nat} {x5 x6 x7 : Value} {wr : World} {dn : List Int} {u e : Nat} (h : BqS s cs w ib x5 x6 x7 wr dn [] u e) (hs : s.data.toList = encs cs) : ∀ ty, (Instr.next (.pointer (some ⟨ib, 0, none⟩)) true ty).run Tryz.prog wr = .ok (.tuple #[.bool false]) wr := by
  have e1 : dn = cs := by rw [← h.eq]; simp
  have hz : s.size = (encs dn).length := by rw [e1, ← hs]; simp
  exact fun ty => Lib.run_next_end_at wr ib s _ ty h.it (by omega)
theorem BqS.step {s : ByteArray} {cs : List Int} {w : World} {ib : Nat} {x5 x6 x7 : Value} {wr : World} {dn r : List Int} {c : Int} {u e : Nat} (h : BqS s cs w ib x5 x6 x7 wr dn (c :: r) u e) (hs : s.data.toList = encs cs) (hc : Scal c) :
    (∀ ty, (Instr.next (.pointer (some ⟨ib, 0, none⟩)) true ty).run Tryz.prog wr = .ok (.tuple #[.bool true, .int .i64 ((encs dn).length : Nat), .int .i32 c]) (wr.iterAt ib s ((encs dn).length + (encd c).length))) ∧ (encs dn).length + (encd c).length ≤ s.size := by
  have hz : s.size = (encs dn).length + (encd c).length + (encs r).length := by
    have : s.data.toList.length = (encs cs).length := by rw [hs]
    rw [← h.eq, encs_app, encs_cons] at this
    simp at this
    omega
  have hl := (encd_len c).1
  have hd : s.data.toList.drop (encs dn).length = encd c ++ encs r := by rw [drop_encs s dn (c :: r) (by rw [h.eq]; exact hs), encs_cons]
  refine ⟨fun ty => ?_, by omega⟩
  rw [Lib.run_next_any_at wr ib s _ ty h.it (by omega), decode_encd s _ c hc (encs r) hd]
  have hc0 : (c.toNat : Int) = c := by unfold Scal at hc; omega
  simp [hc0]
theorem BqS.next {s : ByteArray} {cs : List Int} {w : World} {ib : Nat} {x5 x6 x7 : Value} {wr : World} {dn r : List Int} {c : Int} {u e k6 k7 : Nat} (h : BqS s cs w ib x5 x6 x7 wr dn (c :: r) u e) (hib : w.heap.size ≤ ib) (u2 e2 k62 k72 : Nat) (hu : u2 ≤ u + 1) (he : e2 ≤ e + 1)
    (h6 : k6 = dn.count 39 + e) (h7 : k7 = dn.count 34 + e) (g6 : k62 + e = k6 + (if c = 39 then 1 else 0) + e2) (g7 : k72 + e = k7 + (if c = 34 then 1 else 0) + e2) :
    BqS s cs w ib (.int .i64 u2) (.int .i64 (2 + (k62 : Int))) (.int .i64 (2 + (k72 : Int))) (wr.iterAt ib s ((encs dn).length + (encd c).length)) (dn ++ [c]) r u2 e2 := by
  have c39 : (dn ++ [c]).count 39 = dn.count 39 + (if c = 39 then 1 else 0) := by
    rw [List.count_append, List.count_singleton]
    by_cases q : c = 39 <;> simp [q]
  have c34 : (dn ++ [c]).count 34 = dn.count 34 + (if c = 34 then 1 else 0) := by
    rw [List.count_append, List.count_singleton]
    by_cases q : c = 34 <;> simp [q]
  refine ⟨by rw [← h.eq]; simp, ?_, h.kp.iterAt (.inr hib) _ _, rfl, ⟨k62, rfl, by rw [c39]; omega⟩, ⟨k72, rfl, by rw [c34]; omega⟩, ?_, ?_⟩
  · rw [Lib.iterAt_heap _ _ _ _ _ h.it]
    simp [encs_app, encs_cons, encs_nil]
  · have := h.lu; simp; omega
  · have := h.le; simp; omega

theorem BqS.fin {s : ByteArray} {cs : List Int} {w : World} {ib : Nat} {x5 x6 x7 : Value} {wr : World} {dn r : List Int} {c : Int} {u e k6 k7 : Nat} (h : BqS s cs w ib x5 x6 x7 wr dn (c :: r) u e) (hib : w.heap.size ≤ ib) (hp : (encs dn).length + (encd c).length ≤ s.size)
    (h6 : k6 = dn.count 39 + e) (h7 : k7 = dn.count 34 + e) (y5 y6 y7 : Int) (u2 e2 : Nat) (hu : u2 ≤ u + 1) (he : e2 ≤ e + 1) (g5 : y5 = u2) (g6 : y6 + e = 2 + k6 + (if c = 39 then 1 else 0) + e2) (g7 : y7 + e = 2 + k7 + (if c = 34 then 1 else 0) + e2) :
    (∃ dn' rs' u' e', BqS s cs w ib (.int .i64 y5) (.int .i64 y6) (.int .i64 y7) (wr.iterAt ib s ((encs dn).length + (encd c).length)) dn' rs' u' e') ∧ s.size - (wr.iterAt ib s ((encs dn).length + (encd c).length)).iterPos ib < s.size - wr.iterPos ib := by
  obtain ⟨k62, hk62⟩ : ∃ k : Nat, y6 = 2 + (k : Int) := ⟨(y6 - 2).toNat, by split at g6 <;> omega⟩
  obtain ⟨k72, hk72⟩ : ∃ k : Nat, y7 = 2 + (k : Int) := ⟨(y7 - 2).toNat, by split at g7 <;> omega⟩
  subst g5 hk62 hk72
  have hN := h.next hib u2 e2 k62 k72 hu he h6 h7 (by split at g6 <;> split <;> omega) (by split at g7 <;> split <;> omega)
  refine ⟨⟨_, _, _, _, hN⟩, ?_⟩
  have hl := (encd_len c).1
  simp only [World.iterPos, hN.it, h.it, encs_app, encs_cons, encs_nil, List.append_nil, List.length_append]
  omega

theorem bestQuote_any (s : ByteArray) (cs : List Int) (w : World) (hc : ∀ c ∈ cs, Scal c) (hs : s.data.toList = encs cs) (hl : s.size ≤ 17592186044416) :
    Calls Tryz.prog 102 #[.string s, .bool false] w fun e w' => e = .returned (.int .u8 (bq cs)) ∧ Kp (fun _ => False) w w' := by
  have hcl : cs.length ≤ 17592186044416 := by
    have h1 := encs_len cs
    have h2 : s.data.toList.length = (encs cs).length := by rw [hs]
    simp at h2; omega
  have h0 : BqS s cs w w.heap.size (.int .i64 0) (.int .i64 2) (.int .i64 2) (w.iter s 0) [] cs 0 0 :=
    ⟨rfl, World.iter_heap w s 0, (Kp.refl _ w).alloc _, rfl, ⟨0, rfl, rfl⟩, ⟨0, rfl, rfl⟩, by simp, by simp⟩
  have H0 := Lib.hid h0
  have HC := Lib.hid hc
  have HS := Lib.hid hs
  clear h0 hc hs
  go_enter Tryz.func102, Tryz.ntmps102
  go_wp2
  go_loopw [5, 6, 7] (fun x5 x6 x7 wr => ∃ dn rs u e, BqS s cs w w.heap.size x5 x6 x7 wr dn rs u e) (fun _ _ _ wr => s.size - wr.iterPos w.heap.size)
  case atStart => exact ⟨_, _, _, _, H0.out⟩
  case round =>
    obtain ⟨dn, rs, u, e, hI⟩ := hrel
    obtain ⟨k6, q6, l6⟩ := hI.a6
    obtain ⟨k7, q7, l7⟩ := hI.a7
    have q5 := hI.a5
    subst q5 q6 q7
    have hdl : dn.length ≤ cs.length := by rw [← hI.eq]; simp
    have n39 : dn.count 39 ≤ dn.length := List.count_le_length
    have n34 : dn.count 34 ≤ dn.length := List.count_le_length
    have hu := hI.lu
    have he := hI.le
    have b5 : (u : Int) ≤ 17592186044416 := by omega
    have b6 : (k6 : Int) ≤ 35184372088832 := by omega
    have b7 : (k7 : Int) ≤ 35184372088832 := by omega
    clear n39 n34 hu he hdl
    match rs, hI with
    | [], hI =>
      have hnx := hI.stop HS.out
      have hbq : bq cs = if (2 + (k6 : Int)) < 2 + (k7 : Int) then 39 else 34 := by
        have e1 : dn = cs := by rw [← hI.eq]; simp
        unfold bq
        rw [← e1]
        by_cases q : dn.count 39 < dn.count 34
        · rw [if_pos q, if_pos (by omega)]
        · rw [if_neg q, if_neg (by omega)]
      have HBQ := Lib.hid hbq
      have HKP := Lib.hid hI.kp
      clear hI hbq l6 l7
      by_cases q : (2 + (k6 : Int)) < 2 + (k7 : Int)
      · have HE : Hid (bq cs = 39) := Lib.hid (by rw [HBQ.out, if_pos q])
        go_wp2
        go_ret
        exact ⟨by rw [HE.out]; rfl, HKP.out⟩
      · have HE : Hid (bq cs = 34) := Lib.hid (by rw [HBQ.out, if_neg q])
        go_wp2
        go_ret
        exact ⟨by rw [HE.out]; rfl, HKP.out⟩
    | c :: r, hI =>
      have hcc : Scal c := HC.out c (by rw [← hI.eq]; simp)
      obtain ⟨hnx, hpos⟩ := hI.step HS.out hcc
      have HI := Lib.hid hI
      have HP := Lib.hid hpos
      have L6 := Lib.hid l6
      have L7 := Lib.hid l7
      clear hI hcc hpos l6 l7
      by_cases c1 : c = 39
      · subst c1
        go_wp2
        exact HI.out.fin (Nat.le_refl _) HP.out L6.out L7.out _ _ _ (u + 1) e (by omega) (by omega) (by omega) (by rw [if_pos rfl] <;> omega) (by rw [if_neg (by decide)]; omega)
      have b1 : (c == 39) = false := by simpa using c1
      by_cases c2 : c = 34
      · subst c2
        go_wp2
        exact HI.out.fin (Nat.le_refl _) HP.out L6.out L7.out _ _ _ (u + 1) e (by omega) (by omega) (by omega) (by rw [if_neg (by decide)]; omega) (by rw [if_pos rfl] <;> omega)
      have b2 : (c == 34) = false := by simpa using c2
      have C12 := Lib.hid (And.intro c1 c2)
      clear c1 c2
      by_cases c3 : c = 40 ∨ c = 41 ∨ c = 32 ∨ c = 9
      · rcases c3 with rfl | rfl | rfl | rfl
        all_goals
          go_wp2
          exact HI.out.fin (Nat.le_refl _) HP.out L6.out L7.out _ _ _ (u + 1) e (by omega) (by omega) (by omega) (by rw [if_neg (by decide)]; omega) (by rw [if_neg (by decide)]; omega)
      have b3 : (c == 40) = false := by simp; omega
      have b4 : (c == 41) = false := by simp; omega
      have b5 : (c == 32) = false := by simp; omega
      have b6 : (c == 9) = false := by simp; omega
      clear c3
      by_cases c4 : c = 92 ∨ c = 10 ∨ c = 13 ∨ c = 12
      · rcases c4 with rfl | rfl | rfl | rfl
        all_goals
          go_wp2
          exact HI.out.fin (Nat.le_refl _) HP.out L6.out L7.out _ _ _ (u + 1) (e + 1) (by omega) (by omega) (by omega) (by rw [if_neg (by decide)]; omega) (by rw [if_neg (by decide)]; omega)
      have b7 : (c == 92) = false := by simp; omega
      have b8 : (c == 10) = false := by simp; omega
      have b9 : (c == 13) = false := by simp; omega
      have b10 : (c == 12) = false := by simp; omega
      clear c4
      go_wp2
      exact HI.out.fin (Nat.le_refl _) HP.out L6.out L7.out _ _ _ u e (by omega) (by omega) rfl (by rw [if_neg C12.out.1]; omega) (by rw [if_neg C12.out.2]; omega)
end Go.Proofs.YtkaejhdncohgpaaGreatFmt
