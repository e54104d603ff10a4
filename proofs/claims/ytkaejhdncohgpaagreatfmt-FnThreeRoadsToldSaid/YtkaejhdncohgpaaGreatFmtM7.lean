/- Walk: printIdent; Laws for printIdent's fast way. -/
import Derived.Test.YtkaejhdncohgpaaGreatFmtM5
/- Walk: printIdent. -/
namespace Go.Proofs.YtkaejhdncohgpaaGreatFmt
set_option linter.all false
open Go.RowKit Go.Lib
set_option maxRecDepth 100000
set_option maxHeartbeats 1000000

theorem ident_slow0 (F : Go.Stop.Interp) (G g : Nat) (m a wh : Bool) (v : Value) (css : List UInt8) (s : ByteArray) (cs : List Int) (w : World) (h : Pn F G w g m a v css) (hc : ∀ c ∈ cs, Scal c) (hs : s.data.toList = encs cs) (hw : wst cs = false) (hb : css.length + 8 * s.size + 100 ≤ 140737488355328) :
    Calls Tryz.prog 80 #[.pointer (some ⟨g, 0, none⟩), .string s, .int .u8 0, .int .u8 (if wh then 0 else 1)] w fun e w' => e = .returned (.tuple #[]) ∧ Wr F G g m a v w (css ++ identP a wh 1 cs) w' := by
  have HWS := Lib.hid (WouldStart_any s cs w h.tb.u8 hc hs)
  rw [hw] at HWS
  obtain ⟨wi, hwi⟩ : ∃ x : Int, x = (if wh then 0 else 1) := ⟨_, rfl⟩
  rw [← hwi]
  have HWI := Lib.hid hwi
  have HC := Lib.hid hc
  have HS := Lib.hid hs
  clear hwi hc hs
  go_enter Tryz.func80, Tryz.ntmps80
  go_wp2_with (go_at_call 112; (refine HWS.out.mono ?_); rintro e w1 ⟨rfl, hk1⟩)
  have hG1 : G ≤ w1.heap.size := by have := h.pr.ge; have := hk1.size; omega
  have h0 : IdS F G g m a wh 1 v css s cs w w1.heap.size (w1.iter s 0) [] cs v [] := by
    refine ⟨rfl, World.iter_heap w1 s 0, hk1.size, ?_, ?_, by simp, by simp⟩
    · rw [List.append_nil]; exact h.kp (hk1.alloc _)
    · exact ⟨(hk1.alloc _).mono fun _ _ f => f.elim, fun _ hk => .inl hk⟩
  have H0 := Lib.hid h0
  clear h0
  go_loopw [13] (fun _ wr => ∃ dn rs v1 acc, IdS F G g m a wh 1 v css s cs w w1.heap.size wr dn rs v1 acc) (fun _ wr => s.size - wr.iterPos w1.heap.size)
  case atStart => exact ⟨_, _, _, _, H0.out⟩
  case round =>
    obtain ⟨dn, rs, v1, acc, hI⟩ := hrel
    match rs, hI with
    | [], hI =>
      obtain ⟨hnx, hw⟩ := hI.stop HS.out
      have HW := Lib.hid hw
      clear hw hI
      go_wp2
      go_end0
      exact ⟨rfl, HW.out⟩
    | c :: r, hI =>
      have hcc : Scal c := HC.out c (by rw [← hI.eq]; simp)
      obtain ⟨hnx, hz, hx⟩ := hI.step HS.out hcc
      obtain ⟨p2, s2, i2, n2, g2⟩ := hI.go hG1 ((encs dn).length + (encd c).length)
      generalize wr.iterAt w1.heap.size s ((encs dn).length + (encd c).length) = wr2 at *
      obtain ⟨y3, y5, y6, y7, y9, y15, yf⟩ := p2.pr.f
      have HI := Lib.hid hI
      have HX := Lib.hid hx
      have HZ := Lib.hid hz
      have HP := Lib.hid p2
      have HS2 := Lib.hid s2
      have HI2 := Lib.hid i2
      have HN2 := Lib.hid n2
      have HCC := Lib.hid hcc
      clear hI hx hz p2 s2 i2 n2 hcc y3 y5 y6 y9 y15 yf
      generalize hpos : (encs dn).length = pos at *
      have HPOS := Lib.hid hpos
      clear hpos
      obtain ⟨kk, hkk⟩ : ∃ x : Int, x = if dn = [] then escF a 1 c else esck a c := ⟨_, rfl⟩
      have HKK := Lib.hid hkk
      clear hkk
      go_upto_region 30 with fail
      go_cut [121] (fun t wr => t = .bool (a && decide (128 ≤ c)) ∧ wr2 = wr)
      case first =>
        cases a
        · go_wp2
          go_meet
          exact ⟨rfl, rfl⟩
        · by_cases q : 128 ≤ c
          · go_wp2
            go_meet
            exact ⟨by simp [q], rfl⟩
          · have q' : c < 128 := by omega
            go_wp2
            go_meet
            exact ⟨by simp [q], rfl⟩
      case rest =>
        obtain ⟨rfl, rfl⟩ := hcut
        go_upto_if 121 with fail
        go_cut [15] (fun t wr => t = .int .u8 kk ∧ wr2 = wr)
        case first =>
          cases q0 : (a && decide (128 ≤ c))
          · cases q1 : decide (c = 13 ∨ c = 10 ∨ c = 12 ∨ c = 65279)
            · have hk0 : hexK a c = false := by unfold hexK; rw [q0, q1]; rfl
              simp at q1
              have b1 : (c == 13) = false := by simp; omega
              have b2 : (c == 10) = false := by simp; omega
              have b3 : (c == 12) = false := by simp; omega
              have b4 : (c == 65279) = false := by simp; omega
              clear q1
              by_cases hd : dn = []
              · have hkk2 : kk = escF a 1 c := by rw [HKK.out, if_pos hd]
                have bz : ((pos : Int) == 0) = true := by have := HPOS.out; rw [hd] at this; simp [encs_nil] at this; simp; omega
                cases hn : nameCo c
                all_goals
                  have hkk3 : kk = if (1 : Int) ≠ 0 then 1 else if nameCo c = true then 0 else 1 := by rw [hkk2, escF, if_neg (by rw [hk0]; decide)]
                  have HK3 := Lib.hid hkk3
                  have HN := Lib.hid hn
                  clear hn hkk3 hkk2 hk0 hd
                  go_wp2_with (go_at_call 113; (with_reducible refine (IsNameContinue_any ..).mono ?_); rw [HN.out]; rintro e w9 ⟨rfl, rfl⟩)
                  go_meet
                  exact ⟨by rw [HK3.out]; simp [HN.out], rfl⟩
              · have hkk2 : kk = esck a c := by rw [HKK.out, if_neg hd]
                have bz : ((pos : Int) == 0) = false := by
                  have := HPOS.out
                  have := encs_len dn
                  have : 0 < dn.length := List.length_pos_iff.2 hd
                  simp; omega
                cases hn : nameCo c
                all_goals
                  have hkk3 : kk = if nameCo c = true then 0 else 1 := by rw [hkk2, esck, if_neg (by rw [hk0]; decide)]
                  have HK3 := Lib.hid hkk3
                  have HN := Lib.hid hn
                  clear hn hkk3 hkk2 hk0 hd
                  go_wp2_with (go_at_call 113; (with_reducible refine (IsNameContinue_any ..).mono ?_); rw [HN.out]; rintro e w9 ⟨rfl, rfl⟩)
                  go_meet
                  exact ⟨by rw [HK3.out]; simp [HN.out], rfl⟩
            · have hk0 : hexK a c = true := by unfold hexK; rw [q0, q1]; rfl
              have HK3 : Hid (kk = 2) := Lib.hid (by rw [HKK.out]; split <;> simp [escF, esck, hk0])
              simp at q1
              clear hk0
              rcases q1 with rfl | rfl | rfl | rfl
              all_goals
                go_wp2
                go_meet
                exact ⟨by rw [HK3.out], rfl⟩
          · have hk0 : hexK a c = true := by unfold hexK; rw [q0]; rfl
            have HK3 : Hid (kk = 2) := Lib.hid (by rw [HKK.out]; split <;> simp [escF, esck, hk0])
            clear hk0
            go_wp2
            go_meet
            exact ⟨by rw [HK3.out], rfl⟩
        case rest =>
          obtain ⟨rfl, rfl⟩ := hcut
          have HKR : Hid (kk = 0 ∨ kk = 1 ∨ kk = 2) := Lib.hid (by
            rw [HKK.out]
            split
            · unfold escF; repeat' split
              all_goals simp
            · unfold esck; repeat' split
              all_goals simp)
          have HRL := Lib.hid (runeLen_encd c HCC.out)
          have HL4 := Lib.hid (encd_len c)
          generalize hLL : (encd c).length = L at *
          have HLL := Lib.hid hLL
          clear hLL y7
          go_upto_region 38 with fail
          go_cut [16] (fun t wr => t = .bool (wh && decide (kk ≠ 0) && r.isEmpty) ∧ wr2 = wr)
          case first =>
            have hle : pos + L ≤ s.size := by have := HZ.out; omega
            cases wh
            · have hwi : wi = 1 := HWI.out
              subst hwi
              go_wp2
              go_meet
              exact ⟨rfl, rfl⟩
            · have hwi : wi = 0 := HWI.out
              subst hwi
              rcases HKR.out with e | e | e
              · subst e
                go_wp2
                go_meet
                exact ⟨rfl, rfl⟩
              all_goals
                subst e
                cases r with
                | nil =>
                  have hq : (((pos : Int) + (L : Int)) == (s.size : Int)) = true := by have := HZ.out; simp [encs_nil] at this; simp; omega
                  go_wp2_with (go_at_call 114; (with_reducible refine (Tryz.utf8_RuneLen ..).mono ?_); rw [HRL.out]; rintro e w9 ⟨rfl, rfl⟩)
                  go_meet
                  exact ⟨rfl, rfl⟩
                | cons d r =>
                  have hq : (((pos : Int) + (L : Int)) == (s.size : Int)) = false := by
                    have := HZ.out
                    have := encs_len (d :: r)
                    simp only [List.length_cons] at this
                    simp; omega
                  go_wp2_with (go_at_call 114; (with_reducible refine (Tryz.utf8_RuneLen ..).mono ?_); rw [HRL.out]; rintro e w9 ⟨rfl, rfl⟩)
                  go_meet
                  exact ⟨rfl, rfl⟩
          case rest =>
            obtain ⟨rfl, rfl⟩ := hcut
            have hlep : pos ≤ s.size := by have := HZ.out; omega
            have HKV : Hid (kk = 0 ∨ kk = 2 ∨ kk = 1 ∧ (hexv c < 0 ∨ 48 ≤ c ∧ c ≤ 57)) := Lib.hid (kk_ok a 1 c kk dn HKK.out (.inr (.inr ⟨rfl, fun hd => wst_first (r := r) (by have := HI.out.eq; rw [hd] at this; rw [← List.nil_append (c :: r), this]; exact hw)⟩)))
            have hbb : Hid ((css ++ acc).length + 100 ≤ 140737488355328) := Lib.hid (by
              have := HI.out.ln
              have := HPOS.out
              rw [List.length_append]; omega)
            generalize hls : (wh && decide (kk ≠ 0) && r.isEmpty) = lst at *
            have HLS := Lib.hid hls
            clear hls
            go_wp2_with (go_at_call 101; (with_reducible refine (Escape_any F G g m a _ _ _ c _ (encs r) _ _ HP.out HCC.out HKV.out hbb.out HX.out).mono ?_); rintro e w9 ⟨rfl, hw9⟩)
            obtain ⟨v2, acc2, hN⟩ := HI.out.next HCC.out kk HKK.out HS2.out (by rw [HPOS.out, HLL.out]; exact HI2.out) HN2.out g2 (by rw [HLS.out]; exact hw9)
            refine ⟨⟨dn ++ [c], r, v2, acc2, hN⟩, ?_⟩
            simp only [World.iterPos, hN.it, HI.out.it, encs_app, encs_cons, encs_nil, List.append_nil, List.length_append]
            have h1 := HPOS.out
            have h2 := HLL.out
            have h3 := HL4.out
            have h4 := HZ.out
            omega
end Go.Proofs.YtkaejhdncohgpaaGreatFmt

/- Laws for printIdent's fast way. -/
namespace Go
section
variable {P : Program} {l : Nat} {J : Act → World → Prop} {Q : Exit → Act → World → Prop} {a : Act} {w : World}
@[go_sem] theorem Exit.jump_normal : Exit.jump l J Q .normal a w = Q .normal a w := rfl
@[go_sem] theorem Exit.jump_exit (id : Nat) : Exit.jump l J Q (.exit id) a w = Q (.exit id) a w := rfl
@[go_sem] theorem Exit.jump_ret : Exit.jump l J Q .ret a w = Q .ret a w := rfl
@[go_sem] theorem Exit.jump_panic (ch : List PanicEntry) : Exit.jump l J Q (.panic ch) a w = Q (.panic ch) a w := rfl
/-- A scope at whose end the label stands: a jump to it leaves the scope. -/
theorem wp_scope_out {c : Code} (l : Nat) (hf : findLabel c l = some .skip) (first : c.wp P (Exit.jump l (fun a w => Q .normal a w) Q) a w) : (Code.scope c).wp P Q a w :=
  wp_scope_jumps l _ (fun _ _ => 0) hf first fun a w h => wp_skip (by exact h)
end
end Go
namespace Go.Proofs.YtkaejhdncohgpaaGreatFmt
set_option linter.all false
open Go.RowKit Go.Lib

def okB (b : UInt8) : Bool := decide (b.toNat < 128) && nameCo b.toNat
theorem okB_one {c : Int} (hc : Scal c) (h : ∀ b ∈ encd c, okB b = true) : c < 128 ∧ nameCo c = true := by
  unfold Scal at hc
  by_cases h1 : c < 128
  · rw [encd1 h1] at h
    have := h _ (List.mem_singleton_self _)
    unfold okB at this
    rw [ofNat_lt (by omega)] at this
    simp at this
    refine ⟨h1, ?_⟩
    have e : (((c % 256).toNat : Nat) : Int) = c := by omega
    have h2 := this.2
    rw [show ((max (c % 256) 0 : Int)) = c by omega] at h2
    exact h2
  · exfalso
    have : ∃ b ∈ encd c, 128 ≤ b.toNat := by
      by_cases h2 : c < 2048
      · rw [encd2 (by omega) h2]; exact ⟨_, List.mem_cons_self, by rw [ofNat_lt (by omega)]; omega⟩
      by_cases h3 : c < 65536
      · rw [encd3 (by omega) h3]; exact ⟨_, List.mem_cons_self, by rw [ofNat_lt (by omega)]; omega⟩
      · rw [encd4 (by omega)]; exact ⟨_, List.mem_cons_self, by rw [ofNat_lt (by omega)]; omega⟩
    obtain ⟨b, hb, hb2⟩ := this
    have := h b hb
    simp [okB] at this
    omega
theorem esck_ok {a : Bool} {c : Int} (h : c < 128) (hn : nameCo c = true) : hexK a c = false := by
  unfold hexK
  have : ¬ (c = 13 ∨ c = 10 ∨ c = 12 ∨ c = 65279) := by
    rintro (rfl | rfl | rfl | rfl)
    · exact absurd hn (by decide)
    · exact absurd hn (by decide)
    · exact absurd hn (by decide)
    · omega
  simp [this]
  intro _; omega
theorem slowT_ok (a wh : Bool) : ∀ (cs : List Int), (∀ c ∈ cs, Scal c) → (∀ b ∈ encs cs, okB b = true) → slowT a wh cs = encs cs
  | [], _, _ => rfl
  | c :: r, hc, h => by
    rw [encs_cons] at h ⊢
    obtain ⟨h1, h2⟩ := okB_one (hc c (by simp)) fun b hb => h b (by simp [hb])
    have hk : esck a c = 0 := by simp [esck, esck_ok h1 h2, h2]
    rw [slowT, slowT_ok a wh r (fun d hd => hc d (by simp [hd])) (fun b hb => h b (by simp [hb])), hk]
    simp [escP]
theorem identP_ok (a wh : Bool) (cs : List Int) (hc : ∀ c ∈ cs, Scal c) (h : ∀ b ∈ encs cs, okB b = true) : identP a wh 0 cs = encs cs := by
  match cs, hc, h with
  | [], _, _ => rfl
  | c :: r, hc, h =>
    rw [encs_cons] at h ⊢
    obtain ⟨h1, h2⟩ := okB_one (hc c (by simp)) fun b hb => h b (by simp [hb])
    have hk : escF a 0 c = 0 := by simp [escF, esck_ok h1 h2, h2]
    rw [identP, slowT_ok a wh r (fun d hd => hc d (by simp [hd])) (fun b hb => h b (by simp [hb])), hk]
    simp [escP]

end Go.Proofs.YtkaejhdncohgpaaGreatFmt
