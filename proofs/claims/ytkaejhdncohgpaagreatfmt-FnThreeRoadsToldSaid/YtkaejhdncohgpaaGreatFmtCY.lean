/- Walk: zzIndexAny and zzContainsAny at the two letters of a power of ten. -/
import Derived.Test.YtkaejhdncohgpaaGreatFmtCX
import Derived.Test.YtkaejhdncohgpaaGreatFmtM8
namespace Go.Proofs.YtkaejhdncohgpaaGreatFmt
set_option linter.all false
open Go.RowKit Go.Lib
set_option maxRecDepth 100000
set_option maxHeartbeats 4000000

/-- An iterator over a text, at block ib. -/
structure IcS (s : ByteArray) (cs : List Int) (w : World) (ib : Nat) (wr : World) (dn rs : List Int) : Prop where
  eq : dn ++ rs = cs
  it : wr.heap[ib]? = some (.stringIter s (encs dn).length)
  kp : Kp (fun _ => False) w wr
theorem IcS.stop {s : ByteArray} {cs : List Int} {w : World} {ib : Nat} {wr : World} {dn : List Int} (h : IcS s cs w ib wr dn []) (hs : s.data.toList = encs cs) : ∀ ty, (Instr.next (.pointer (some ⟨ib, 0, none⟩)) true ty).run Tryz.prog wr = .ok (.tuple #[.bool false]) wr := by
  have e1 : dn = cs := by rw [← h.eq]; simp
  have hz : s.size = (encs dn).length := by rw [e1, ← hs]; simp
  exact fun ty => Lib.run_next_end_at wr ib s _ ty h.it (by omega)
theorem IcS.step {s : ByteArray} {cs : List Int} {w : World} {ib : Nat} {wr : World} {dn r : List Int} {c : Int} (h : IcS s cs w ib wr dn (c :: r)) (hs : s.data.toList = encs cs) (hc : Scal c) :
    (∀ ty, (Instr.next (.pointer (some ⟨ib, 0, none⟩)) true ty).run Tryz.prog wr = .ok (.tuple #[.bool true, .int .i64 ((encs dn).length : Nat), .int .i32 c]) (wr.iterAt ib s ((encs dn).length + (encd c).length))) ∧ (encs dn).length + (encd c).length ≤ s.size := by
  have hz : s.size = (encs dn).length + (encd c).length + (encs r).length := by
    have : s.data.toList.length = (encs cs).length := by rw [hs]
    rw [← h.eq, encs_app, encs_cons] at this
    simp at this
    omega
  have hl := (encd_len c).1
  have hd : s.data.toList.drop (encs dn).length = encd c ++ encs r := by rw [drop_encs s dn (c :: r) (by rw [h.eq]; exact hs), encs_cons]
  refine ⟨fun ty => ?_, by omega⟩
  rw [Lib.run_next_any_at wr ib s _ ty h.it (by omega), decode_encd s _ c hc (encs r) hd]
  have hc0 : (c.toNat : Int) = c := by unfold Scal at hc; omega
  simp [hc0]
theorem IcS.next {s : ByteArray} {cs : List Int} {w : World} {ib : Nat} {wr : World} {dn r : List Int} {c : Int} (h : IcS s cs w ib wr dn (c :: r)) (hib : w.heap.size ≤ ib) :
    IcS s cs w ib (wr.iterAt ib s ((encs dn).length + (encd c).length)) (dn ++ [c]) r := by
  refine ⟨by rw [← h.eq]; simp, ?_, h.kp.iterAt (.inr hib) _ _⟩
  rw [Lib.iterAt_heap _ _ _ _ _ h.it]
  simp [encs_app, encs_cons, encs_nil]
theorem IcS.less {s : ByteArray} {cs : List Int} {w : World} {ib : Nat} {wr : World} {dn r : List Int} {c : Int} (h : IcS s cs w ib wr dn (c :: r)) (hs : s.data.toList = encs cs) (hc : Scal c) :
    s.size - (wr.iterAt ib s ((encs dn).length + (encd c).length)).iterPos ib < s.size - wr.iterPos ib := by
  have hp := (h.step hs hc).2
  have hl := (encd_len c).1
  have hN : (wr.iterAt ib s ((encs dn).length + (encd c).length)).heap[ib]? = some (.stringIter s ((encs dn).length + (encd c).length)) := Lib.iterAt_heap _ _ _ _ _ h.it
  simp only [World.iterPos, hN, h.it]
  omega
theorem IcS.keep {s : ByteArray} {cs : List Int} {w : World} {ib : Nat} {wr wx : World} {dn rs : List Int} (h : IcS s cs w ib wr dn rs) (hk : Kp (fun _ => False) wr wx) : IcS s cs w ib wx dn rs :=
  ⟨h.eq, by rw [hk.block ib (Array.getElem?_eq_some_iff.1 h.it).1 (fun f => f)]; exact h.it, h.kp.trans hk⟩

theorem IndexAny_eE (s : ByteArray) (cs : List Int) (w : World) (hc : ∀ c ∈ cs, Scal c) (hs : s.data.toList = encs cs) (hl : s.size ≤ 140737488355328) :
    Calls Tryz.prog 135 #[.string s, .string ⟨#[101, 69]⟩] w fun e w' => ∃ r : Int, e = .returned (.int .i64 r) ∧ decide (0 ≤ r) = hasE cs ∧ Kp (fun _ => False) w w' := by
  have h0 : IcS s cs w w.heap.size (w.iter s 0) [] cs := ⟨rfl, World.iter_heap w s 0, (Kp.refl _ w).alloc _⟩
  have H0 := Lib.hid h0
  have HC := Lib.hid hc
  have HS := Lib.hid hs
  clear h0 hc hs
  go_enter Tryz.func135, Tryz.ntmps135
  go_wp2
  go_loopw [] (fun wr => ∃ dn rs, IcS s cs w w.heap.size wr dn rs ∧ hasE dn = false) (fun wr => s.size - wr.iterPos w.heap.size)
  case atStart => exact ⟨_, _, H0.out, rfl⟩
  case round =>
    obtain ⟨dn, rs, hI, hE⟩ := hrel
    have HE := Lib.hid hE
    clear hE
    match rs, hI with
    | [], hI =>
      have hnx := hI.stop HS.out
      have he : hasE cs = false := by
        have e1 : dn = cs := by rw [← hI.eq]; simp
        rw [← e1]; exact HE.out
      have HEE := Lib.hid he
      have HKP := Lib.hid hI.kp
      clear hI he
      go_wp2
      go_ret
      exact ⟨_, rfl, by rw [HEE.out]; decide, HKP.out⟩
    | c :: r, hI =>
      have hcc : Scal c := HC.out c (by rw [← hI.eq]; simp)
      obtain ⟨hnx, hpos⟩ := hI.step HS.out hcc
      have hN := hI.next (Nat.le_refl _)
      have HL := Lib.hid (hI.less HS.out hcc)
      have hy : c = 101 ∨ c = 69 → hasE cs = true := by
        intro q
        rw [← hI.eq]
        unfold hasE
        rw [List.any_eq_true]
        exact ⟨c, by simp, by simpa using q⟩
      have HY := Lib.hid hy
      have hdn : (encs dn).length ≤ 140737488355328 := by omega
      clear hcc hy
      have h1 : IcS ⟨#[101, 69]⟩ [101, 69] (wr.iterAt w.heap.size s ((encs dn).length + (encd c).length)) (wr.iterAt w.heap.size s ((encs dn).length + (encd c).length)).heap.size ((wr.iterAt w.heap.size s ((encs dn).length + (encd c).length)).iter ⟨#[101, 69]⟩ 0) [] [101, 69] := ⟨rfl, World.iter_heap _ _ 0, (Kp.refl _ _).alloc _⟩
      have H1 := Lib.hid h1
      have HN := Lib.hid hN
      clear h1 hN hI
      have HHE : Hid (¬ (c = 101 ∨ c = 69) → hasE (dn ++ [c]) = false) := Lib.hid (fun q => by
        have := HE.out
        unfold hasE at this ⊢
        rw [List.any_append, this]
        simpa using q)
      generalize wr.iterAt w.heap.size s ((encs dn).length + (encd c).length) = wi at *
      have hw8 : w.heap.size < wi.heap.size := (Array.getElem?_eq_some_iff.1 HN.out.it).1
      go_wp2
      go_loopw [] (fun wx => ∃ d2 r2, IcS ⟨#[101, 69]⟩ [101, 69] wi wi.heap.size wx d2 r2 ∧ (∀ d ∈ d2, c ≠ d)) (fun wx => 2 - wx.iterPos wi.heap.size)
      case atStart => exact ⟨_, _, H1.out, by simp⟩
      case round =>
        obtain ⟨d2, r2, hJ, hno⟩ := hrel
        have HNO := Lib.hid hno
        clear hno hnx
        match r2, hJ with
        | [], hJ =>
          have hnx := hJ.stop (by decide)
          have hd2 : d2 = [101, 69] := by have := hJ.eq; simpa using this
          have hq : ¬ (c = 101 ∨ c = 69) := by
            have := HNO.out
            rw [hd2] at this
            simp at this
            omega
          have HQ := Lib.hid hq
          have HJ := Lib.hid hJ
          clear hJ hd2 hq
          go_wp2
          have hk := HJ.out.kp
          refine ⟨⟨dn ++ [c], r, HN.out.keep hk, HHE.out HQ.out⟩, ?_⟩
          have := HL.out
          have e : wr.iterPos w.heap.size = wi.iterPos w.heap.size := by simp only [World.iterPos, hk.block w.heap.size hw8 (fun f => f)]
          rw [e]; exact this
        | d :: r3, hJ =>
          have hdc : d = 101 ∨ d = 69 := by
            have : d ∈ [(101 : Int), 69] := by rw [← hJ.eq]; simp
            simpa using this
          have hds : Scal d := by unfold Scal; omega
          obtain ⟨hnx, -⟩ := hJ.step (by decide) hds
          have HJN := Lib.hid (hJ.next (Nat.le_refl _))
          have HJL := Lib.hid (hJ.less (by decide) hds)
          have HJK := Lib.hid hJ.kp
          clear hJ hds
          by_cases q : c = d
          · have b1 : (c == d) = true := by simpa using q
            have HT : Hid (hasE cs = true) := Lib.hid (HY.out (by omega))
            have HKP := Lib.hid HN.out.kp
            clear q hdc
            go_wp2
            go_ret
            exact ⟨_, rfl, by rw [HT.out]; simp, HKP.out.trans HJN.out.kp⟩
          · have b1 : (c == d) = false := by simpa using q
            have HNQ := Lib.hid q
            clear q hdc
            go_wp2
            refine ⟨⟨d2 ++ [d], r3, HJN.out, ?_⟩, HJL.out⟩
            intro x hx
            rcases List.mem_append.1 hx with hx | hx
            · exact HNO.out x hx
            · simp at hx; subst hx; exact HNQ.out
theorem ContainsAny_eE (s : ByteArray) (cs : List Int) (w : World) (hc : ∀ c ∈ cs, Scal c) (hs : s.data.toList = encs cs) (hl : s.size ≤ 140737488355328) :
    Calls Tryz.prog 109 #[.string s, .string ⟨#[101, 69]⟩] w fun e w' => e = .returned (.bool (hasE cs)) ∧ Kp (fun _ => False) w w' := by
  have HI := Lib.hid (IndexAny_eE s cs w hc hs hl)
  clear hc hs
  go_enter Tryz.func109, Tryz.ntmps109
  go_wp2_with (go_at_call 135; refine HI.out.mono ?_)
  rintro e w2 ⟨r, rfl, hr, hk⟩
  have HR := Lib.hid hr
  have HK := Lib.hid hk
  clear hr hk
  go_wp2
  go_ret
  exact ⟨ret_bool HR.out, HK.out⟩
end Go.Proofs.YtkaejhdncohgpaaGreatFmt
