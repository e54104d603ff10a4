/- Walk: printIdent, as an identifier and behind the sign of a hash (made by gen/ident.py). -/
import Derived.Test.YtkaejhdncohgpaaGreatFmtM7
namespace Go.Proofs.YtkaejhdncohgpaaGreatFmt
set_option linter.all false
open Go.RowKit Go.Lib
set_option maxRecDepth 100000
set_option maxHeartbeats 2000000

/-- How far the fast loop is. -/
structure FsS (s : ByteArray) (w1 : World) (t : Value) (wr : World) (i : Nat) : Prop where
  t : t = .int .i64 i
  le : i ≤ s.size
  ok : ∀ b ∈ s.data.toList.take i, okB b = true
  w : w1 = wr
theorem take_next (s : ByteArray) (i : Nat) (q : i < s.size) (b : UInt8) (hb : s[i]'q = b) (h : ∀ b ∈ s.data.toList.take i, okB b = true) (ho : okB b = true) : ∀ b ∈ s.data.toList.take (i + 1), okB b = true := by
  have hl : i < s.data.toList.length := by simpa using q
  intro x hx
  rw [List.take_succ_eq_append_getElem hl] at hx
  rcases List.mem_append.1 hx with hx | hx
  · exact h x hx
  · have e : s.data.toList[i] = b := by rw [← hb]; simp; rfl
    rw [e] at hx
    simp at hx
    rw [hx]; exact ho

theorem ident_fast0 (F : Go.Stop.Interp) (G g : Nat) (m a wh : Bool) (v : Value) (css : List UInt8) (s : ByteArray) (cs : List Int) (w : World) (h : Pn F G w g m a v css) (hc : ∀ c ∈ cs, Scal c) (hs : s.data.toList = encs cs) (hw : wst cs = true) (hb : css.length + 8 * s.size + 100 ≤ 140737488355328) :
    Calls Tryz.prog 80 #[.pointer (some ⟨g, 0, none⟩), .string s, .int .u8 0, .int .u8 (if wh then 0 else 1)] w fun e w' => e = .returned (.tuple #[]) ∧ Wr F G g m a v w (css ++ identP a wh 0 cs) w' := by
  have HWS := Lib.hid (WouldStart_any s cs w h.tb.u8 hc hs)
  rw [hw] at HWS
  obtain ⟨wi, hwi⟩ : ∃ x : Int, x = (if wh then 0 else 1) := ⟨_, rfl⟩
  rw [← hwi]
  have HWI := Lib.hid hwi
  have HC := Lib.hid hc
  have HS := Lib.hid hs
  clear hwi hc hs
  go_enter Tryz.func80, Tryz.ntmps80
  go_wp2_with (go_at_call 112; (refine HWS.out.mono ?_); rintro e w1 ⟨rfl, hk1⟩)
  refine wp_scope_out 0 rfl ?_
  go_wp2
  go_loopw [11, 12] (fun t _ wr => ∃ i, FsS s w1 t wr i) (fun t _ _ => s.size - (match t with | .int _ x => x.toNat | _ => 0))
  case atStart => exact ⟨0, rfl, by omega, by simp, rfl⟩
  case round =>
    obtain ⟨i, hF⟩ := hrel
    obtain ⟨rfl, hle, hok, rfl⟩ := hF
    have HOK := Lib.hid hok
    clear hok
    by_cases q : i < s.size
    · obtain ⟨b, hb0⟩ : ∃ b, s[i]'q = b := ⟨_, rfl⟩
      have HB0 := Lib.hid hb0
      have hbl := b.toNat_lt
      go_upto_region 24 with fail
      clear hb0
      go_cut [97] (fun t wr => t = .bool (!okB b) ∧ w1 = wr)
      case first =>
        by_cases q2 : 128 ≤ b.toNat
        · have hO : okB b = false := by simp [okB]; omega
          have HO := Lib.hid hO
          clear hO
          go_wp2
          go_meet
          exact ⟨by rw [HO.out]; rfl, rfl⟩
        · have hlt : b.toNat < 128 := by omega
          cases hn : nameCo (b.toNat : Int)
          all_goals
            have hO : okB b = nameCo (b.toNat : Int) := by simp [okB, hlt]
            have HO := Lib.hid hO
            have HN := Lib.hid hn
            clear hO hn q2
            go_wp2_with (go_at_call 113; (with_reducible refine (IsNameContinue_any ..).mono ?_); rw [HN.out]; rintro e w9 ⟨rfl, rfl⟩)
            go_meet
            exact ⟨by rw [HO.out, HN.out]; simp <;> omega, rfl⟩
      case rest =>
        obtain ⟨rfl, rfl⟩ := hcut
        cases hO : okB b
        · go_wp2
          apply wp_goto
          refine ⟨rfl, ?_⟩
          clear hO HB0 HOK hbl
          go_wp2
          have hG1 : G ≤ w1.heap.size := by have := h.pr.ge; have := hk1.size; omega
          have h0 : IdS F G g m a wh 0 v css s cs w w1.heap.size (w1.iter s 0) [] cs v [] := by
            refine ⟨rfl, World.iter_heap w1 s 0, hk1.size, ?_, ?_, by simp, by simp⟩
            · rw [List.append_nil]; exact h.kp (hk1.alloc _)
            · exact ⟨(hk1.alloc _).mono fun _ _ f => f.elim, fun _ hk => .inl hk⟩
          have H0 := Lib.hid h0
          clear h0
          go_loopw [13] (fun _ wr => ∃ dn rs v1 acc, IdS F G g m a wh 0 v css s cs w w1.heap.size wr dn rs v1 acc) (fun _ wr => s.size - wr.iterPos w1.heap.size)
          case atStart => exact ⟨_, _, _, _, H0.out⟩
          case round =>
            obtain ⟨dn, rs, v1, acc, hI⟩ := hrel
            match rs, hI with
            | [], hI =>
              obtain ⟨hnx, hw⟩ := hI.stop HS.out
              have HW := Lib.hid hw
              clear hw hI
              go_wp2
              go_end0
              exact ⟨rfl, HW.out⟩
            | c :: r, hI =>
              have hcc : Scal c := HC.out c (by rw [← hI.eq]; simp)
              obtain ⟨hnx, hz, hx⟩ := hI.step HS.out hcc
              obtain ⟨p2, s2, i2, n2, g2⟩ := hI.go hG1 ((encs dn).length + (encd c).length)
              generalize wr.iterAt w1.heap.size s ((encs dn).length + (encd c).length) = wr2 at *
              obtain ⟨y3, y5, y6, y7, y9, y15, yf⟩ := p2.pr.f
              have HI := Lib.hid hI
              have HX := Lib.hid hx
              have HZ := Lib.hid hz
              have HP := Lib.hid p2
              have HS2 := Lib.hid s2
              have HI2 := Lib.hid i2
              have HN2 := Lib.hid n2
              have HCC := Lib.hid hcc
              clear hI hx hz p2 s2 i2 n2 hcc y3 y5 y6 y9 y15 yf
              generalize hpos : (encs dn).length = pos at *
              have HPOS := Lib.hid hpos
              clear hpos
              obtain ⟨kk, hkk⟩ : ∃ x : Int, x = if dn = [] then escF a 0 c else esck a c := ⟨_, rfl⟩
              have HKK := Lib.hid hkk
              clear hkk
              go_upto_region 30 with fail
              go_cut [121] (fun t wr => t = .bool (a && decide (128 ≤ c)) ∧ wr2 = wr)
              case first =>
                cases a
                · go_wp2
                  go_meet
                  exact ⟨rfl, rfl⟩
                · by_cases q : 128 ≤ c
                  · go_wp2
                    go_meet
                    exact ⟨by simp [q], rfl⟩
                  · have q' : c < 128 := by omega
                    go_wp2
                    go_meet
                    exact ⟨by simp [q], rfl⟩
              case rest =>
                obtain ⟨rfl, rfl⟩ := hcut
                go_upto_if 121 with fail
                go_cut [15] (fun t wr => t = .int .u8 kk ∧ wr2 = wr)
                case first =>
                  cases q0 : (a && decide (128 ≤ c))
                  · cases q1 : decide (c = 13 ∨ c = 10 ∨ c = 12 ∨ c = 65279)
                    · have hk0 : hexK a c = false := by unfold hexK; rw [q0, q1]; rfl
                      simp at q1
                      have b1 : (c == 13) = false := by simp; omega
                      have b2 : (c == 10) = false := by simp; omega
                      have b3 : (c == 12) = false := by simp; omega
                      have b4 : (c == 65279) = false := by simp; omega
                      clear q1
                      by_cases hd : dn = []
                      · have hkk2 : kk = escF a 0 c := by rw [HKK.out, if_pos hd]
                        have bz : ((pos : Int) == 0) = true := by have := HPOS.out; rw [hd] at this; simp [encs_nil] at this; simp; omega
                        cases hn : nameCo c
                        all_goals
                          have hkk3 : kk = if (0 : Int) ≠ 0 then 0 else if nameCo c = true then 0 else 1 := by rw [hkk2, escF, if_neg (by rw [hk0]; decide)]
                          have HK3 := Lib.hid hkk3
                          have HN := Lib.hid hn
                          clear hn hkk3 hkk2 hk0 hd
                          go_wp2_with (go_at_call 113; (with_reducible refine (IsNameContinue_any ..).mono ?_); rw [HN.out]; rintro e w9 ⟨rfl, rfl⟩)
                          go_meet
                          exact ⟨by rw [HK3.out]; simp [HN.out], rfl⟩
                      · have hkk2 : kk = esck a c := by rw [HKK.out, if_neg hd]
                        have bz : ((pos : Int) == 0) = false := by
                          have := HPOS.out
                          have := encs_len dn
                          have : 0 < dn.length := List.length_pos_iff.2 hd
                          simp; omega
                        cases hn : nameCo c
                        all_goals
                          have hkk3 : kk = if nameCo c = true then 0 else 1 := by rw [hkk2, esck, if_neg (by rw [hk0]; decide)]
                          have HK3 := Lib.hid hkk3
                          have HN := Lib.hid hn
                          clear hn hkk3 hkk2 hk0 hd
                          go_wp2_with (go_at_call 113; (with_reducible refine (IsNameContinue_any ..).mono ?_); rw [HN.out]; rintro e w9 ⟨rfl, rfl⟩)
                          go_meet
                          exact ⟨by rw [HK3.out]; simp [HN.out], rfl⟩
                    · have hk0 : hexK a c = true := by unfold hexK; rw [q0, q1]; rfl
                      have HK3 : Hid (kk = 2) := Lib.hid (by rw [HKK.out]; split <;> simp [escF, esck, hk0])
                      simp at q1
                      clear hk0
                      rcases q1 with rfl | rfl | rfl | rfl
                      all_goals
                        go_wp2
                        go_meet
                        exact ⟨by rw [HK3.out], rfl⟩
                  · have hk0 : hexK a c = true := by unfold hexK; rw [q0]; rfl
                    have HK3 : Hid (kk = 2) := Lib.hid (by rw [HKK.out]; split <;> simp [escF, esck, hk0])
                    clear hk0
                    go_wp2
                    go_meet
                    exact ⟨by rw [HK3.out], rfl⟩
                case rest =>
                  obtain ⟨rfl, rfl⟩ := hcut
                  have HKR : Hid (kk = 0 ∨ kk = 1 ∨ kk = 2) := Lib.hid (by
                    rw [HKK.out]
                    split
                    · unfold escF; repeat' split
                      all_goals simp
                    · unfold esck; repeat' split
                      all_goals simp)
                  have HRL := Lib.hid (runeLen_encd c HCC.out)
                  have HL4 := Lib.hid (encd_len c)
                  generalize hLL : (encd c).length = L at *
                  have HLL := Lib.hid hLL
                  clear hLL y7
                  go_upto_region 38 with fail
                  go_cut [16] (fun t wr => t = .bool (wh && decide (kk ≠ 0) && r.isEmpty) ∧ wr2 = wr)
                  case first =>
                    have hle : pos + L ≤ s.size := by have := HZ.out; omega
                    cases wh
                    · have hwi : wi = 1 := HWI.out
                      subst hwi
                      go_wp2
                      go_meet
                      exact ⟨rfl, rfl⟩
                    · have hwi : wi = 0 := HWI.out
                      subst hwi
                      rcases HKR.out with e | e | e
                      · subst e
                        go_wp2
                        go_meet
                        exact ⟨rfl, rfl⟩
                      all_goals
                        subst e
                        cases r with
                        | nil =>
                          have hq : (((pos : Int) + (L : Int)) == (s.size : Int)) = true := by have := HZ.out; simp [encs_nil] at this; simp; omega
                          go_wp2_with (go_at_call 114; (with_reducible refine (Tryz.utf8_RuneLen ..).mono ?_); rw [HRL.out]; rintro e w9 ⟨rfl, rfl⟩)
                          go_meet
                          exact ⟨rfl, rfl⟩
                        | cons d r =>
                          have hq : (((pos : Int) + (L : Int)) == (s.size : Int)) = false := by
                            have := HZ.out
                            have := encs_len (d :: r)
                            simp only [List.length_cons] at this
                            simp; omega
                          go_wp2_with (go_at_call 114; (with_reducible refine (Tryz.utf8_RuneLen ..).mono ?_); rw [HRL.out]; rintro e w9 ⟨rfl, rfl⟩)
                          go_meet
                          exact ⟨rfl, rfl⟩
                  case rest =>
                    obtain ⟨rfl, rfl⟩ := hcut
                    have hlep : pos ≤ s.size := by have := HZ.out; omega
                    have HKV : Hid (kk = 0 ∨ kk = 2 ∨ kk = 1 ∧ (hexv c < 0 ∨ 48 ≤ c ∧ c ≤ 57)) := Lib.hid (kk_ok a 0 c kk dn HKK.out (.inl rfl))
                    have hbb : Hid ((css ++ acc).length + 100 ≤ 140737488355328) := Lib.hid (by
                      have := HI.out.ln
                      have := HPOS.out
                      rw [List.length_append]; omega)
                    generalize hls : (wh && decide (kk ≠ 0) && r.isEmpty) = lst at *
                    have HLS := Lib.hid hls
                    clear hls
                    go_wp2_with (go_at_call 101; (with_reducible refine (Escape_any F G g m a _ _ _ c _ (encs r) _ _ HP.out HCC.out HKV.out hbb.out HX.out).mono ?_); rintro e w9 ⟨rfl, hw9⟩)
                    obtain ⟨v2, acc2, hN⟩ := HI.out.next HCC.out kk HKK.out HS2.out (by rw [HPOS.out, HLL.out]; exact HI2.out) HN2.out g2 (by rw [HLS.out]; exact hw9)
                    refine ⟨⟨dn ++ [c], r, v2, acc2, hN⟩, ?_⟩
                    simp only [World.iterPos, hN.it, HI.out.it, encs_app, encs_cons, encs_nil, List.append_nil, List.length_append]
                    have h1 := HPOS.out
                    have h2 := HLL.out
                    have h3 := HL4.out
                    have h4 := HZ.out
                    omega
        · have hk := take_next s i q b HB0.out HOK.out hO
          have HK := Lib.hid hk
          clear hk
          go_wp2
          refine ⟨⟨i + 1, ?_, by omega, HK.out, rfl⟩, ?_⟩
          · simp
          · simp; omega
    · have hall : ∀ b ∈ encs cs, okB b = true := by
        intro b hb
        have := HOK.out
        rw [List.take_of_length_le (by simp; omega), HS.out] at this
        exact this b hb
      have hP := h.kp hk1
      obtain ⟨y3, y5, y6, y7, y9, y15, yf⟩ := hP.pr.f
      have hown := hP.pr.own
      have hge := hP.pr.ge
      have hlt := hP.pr.lt
      have HE := Lib.hid (identP_ok a wh cs HC.out hall)
      have HP := Lib.hid hP
      clear hall hP
      have hbb : css.length + s.size ≤ 140737488355328 := by omega
      go_wp2_with (at_builtin; refine app_str (.tmp 102) (.tmp 103) rfl rfl G v css rfl hown s rfl hbb hge ?_)
      intro v' w2 hA
      obtain ⟨A', n', cp', rfl⟩ := hA.form
      obtain ⟨c15, d15⟩ := HP.out.pr.at1 hA
      obtain ⟨P2, S2⟩ := HP.out.pr.app hA
      have hw2 := Wr.of h P2 (S2.pre hk1)
      have HW2 := Lib.hid hw2
      clear P2 S2 hw2 hown hge y3 y5 y6 y7 y9 y15 yf hA
      go_wp2
      rw [Exit.jump_ret]
      simp only [Exit.then]
      have hh := HW2.out
      rw [HS.out, ← HE.out] at hh
      exact bodyPost_ret (results_none rfl _ _ _) rfl ⟨rfl, hh⟩

theorem ident_hash (F : Go.Stop.Interp) (G g : Nat) (m a wh : Bool) (v : Value) (css : List UInt8) (s : ByteArray) (cs : List Int) (w : World) (h : Pn F G w g m a v css) (hc : ∀ c ∈ cs, Scal c) (hs : s.data.toList = encs cs) (hb : css.length + 8 * s.size + 100 ≤ 140737488355328) :
    Calls Tryz.prog 80 #[.pointer (some ⟨g, 0, none⟩), .string s, .int .u8 1, .int .u8 (if wh then 0 else 1)] w fun e w' => e = .returned (.tuple #[]) ∧ Wr F G g m a v w (css ++ identP a wh 0 cs) w' := by
  have HWS := Lib.hid (WouldStart_any s cs w h.tb.u8 hc hs)

  obtain ⟨wi, hwi⟩ : ∃ x : Int, x = (if wh then 0 else 1) := ⟨_, rfl⟩
  rw [← hwi]
  have HWI := Lib.hid hwi
  have HC := Lib.hid hc
  have HS := Lib.hid hs
  clear hwi hc hs
  go_enter Tryz.func80, Tryz.ntmps80
  go_wp2
  have hk1 : Kp (fun _ => False) w w := Kp.refl _ _
  refine wp_scope_out 0 rfl ?_
  go_wp2
  go_loopw [11, 12] (fun t _ wr => ∃ i, FsS s w t wr i) (fun t _ _ => s.size - (match t with | .int _ x => x.toNat | _ => 0))
  case atStart => exact ⟨0, rfl, by omega, by simp, rfl⟩
  case round =>
    obtain ⟨i, hF⟩ := hrel
    obtain ⟨rfl, hle, hok, rfl⟩ := hF
    have HOK := Lib.hid hok
    clear hok
    by_cases q : i < s.size
    · obtain ⟨b, hb0⟩ : ∃ b, s[i]'q = b := ⟨_, rfl⟩
      have HB0 := Lib.hid hb0
      have hbl := b.toNat_lt
      go_upto_region 24 with fail
      clear hb0
      go_cut [97] (fun t wr => t = .bool (!okB b) ∧ w = wr)
      case first =>
        by_cases q2 : 128 ≤ b.toNat
        · have hO : okB b = false := by simp [okB]; omega
          have HO := Lib.hid hO
          clear hO
          go_wp2
          go_meet
          exact ⟨by rw [HO.out]; rfl, rfl⟩
        · have hlt : b.toNat < 128 := by omega
          cases hn : nameCo (b.toNat : Int)
          all_goals
            have hO : okB b = nameCo (b.toNat : Int) := by simp [okB, hlt]
            have HO := Lib.hid hO
            have HN := Lib.hid hn
            clear hO hn q2
            go_wp2_with (go_at_call 113; (with_reducible refine (IsNameContinue_any ..).mono ?_); rw [HN.out]; rintro e w9 ⟨rfl, rfl⟩)
            go_meet
            exact ⟨by rw [HO.out, HN.out]; simp <;> omega, rfl⟩
      case rest =>
        obtain ⟨rfl, rfl⟩ := hcut
        cases hO : okB b
        · go_wp2
          apply wp_goto
          refine ⟨rfl, ?_⟩
          clear hO HB0 HOK hbl
          go_wp2
          have hG1 : G ≤ w.heap.size := by have := h.pr.ge; have := hk1.size; omega
          have h0 : IdS F G g m a wh 0 v css s cs w w.heap.size (w.iter s 0) [] cs v [] := by
            refine ⟨rfl, World.iter_heap w s 0, hk1.size, ?_, ?_, by simp, by simp⟩
            · rw [List.append_nil]; exact h.kp (hk1.alloc _)
            · exact ⟨(hk1.alloc _).mono fun _ _ f => f.elim, fun _ hk => .inl hk⟩
          have H0 := Lib.hid h0
          clear h0
          go_loopw [13] (fun _ wr => ∃ dn rs v1 acc, IdS F G g m a wh 0 v css s cs w w.heap.size wr dn rs v1 acc) (fun _ wr => s.size - wr.iterPos w.heap.size)
          case atStart => exact ⟨_, _, _, _, H0.out⟩
          case round =>
            obtain ⟨dn, rs, v1, acc, hI⟩ := hrel
            match rs, hI with
            | [], hI =>
              obtain ⟨hnx, hw⟩ := hI.stop HS.out
              have HW := Lib.hid hw
              clear hw hI
              go_wp2
              go_end0
              exact ⟨rfl, HW.out⟩
            | c :: r, hI =>
              have hcc : Scal c := HC.out c (by rw [← hI.eq]; simp)
              obtain ⟨hnx, hz, hx⟩ := hI.step HS.out hcc
              obtain ⟨p2, s2, i2, n2, g2⟩ := hI.go hG1 ((encs dn).length + (encd c).length)
              generalize wr.iterAt w.heap.size s ((encs dn).length + (encd c).length) = wr2 at *
              obtain ⟨y3, y5, y6, y7, y9, y15, yf⟩ := p2.pr.f
              have HI := Lib.hid hI
              have HX := Lib.hid hx
              have HZ := Lib.hid hz
              have HP := Lib.hid p2
              have HS2 := Lib.hid s2
              have HI2 := Lib.hid i2
              have HN2 := Lib.hid n2
              have HCC := Lib.hid hcc
              clear hI hx hz p2 s2 i2 n2 hcc y3 y5 y6 y9 y15 yf
              generalize hpos : (encs dn).length = pos at *
              have HPOS := Lib.hid hpos
              clear hpos
              obtain ⟨kk, hkk⟩ : ∃ x : Int, x = if dn = [] then escF a 0 c else esck a c := ⟨_, rfl⟩
              have HKK := Lib.hid hkk
              clear hkk
              go_upto_region 30 with fail
              go_cut [121] (fun t wr => t = .bool (a && decide (128 ≤ c)) ∧ wr2 = wr)
              case first =>
                cases a
                · go_wp2
                  go_meet
                  exact ⟨rfl, rfl⟩
                · by_cases q : 128 ≤ c
                  · go_wp2
                    go_meet
                    exact ⟨by simp [q], rfl⟩
                  · have q' : c < 128 := by omega
                    go_wp2
                    go_meet
                    exact ⟨by simp [q], rfl⟩
              case rest =>
                obtain ⟨rfl, rfl⟩ := hcut
                go_upto_if 121 with fail
                go_cut [15] (fun t wr => t = .int .u8 kk ∧ wr2 = wr)
                case first =>
                  cases q0 : (a && decide (128 ≤ c))
                  · cases q1 : decide (c = 13 ∨ c = 10 ∨ c = 12 ∨ c = 65279)
                    · have hk0 : hexK a c = false := by unfold hexK; rw [q0, q1]; rfl
                      simp at q1
                      have b1 : (c == 13) = false := by simp; omega
                      have b2 : (c == 10) = false := by simp; omega
                      have b3 : (c == 12) = false := by simp; omega
                      have b4 : (c == 65279) = false := by simp; omega
                      clear q1
                      by_cases hd : dn = []
                      · have hkk2 : kk = escF a 0 c := by rw [HKK.out, if_pos hd]
                        have bz : ((pos : Int) == 0) = true := by have := HPOS.out; rw [hd] at this; simp [encs_nil] at this; simp; omega
                        cases hn : nameCo c
                        all_goals
                          have hkk3 : kk = if (0 : Int) ≠ 0 then 0 else if nameCo c = true then 0 else 1 := by rw [hkk2, escF, if_neg (by rw [hk0]; decide)]
                          have HK3 := Lib.hid hkk3
                          have HN := Lib.hid hn
                          clear hn hkk3 hkk2 hk0 hd
                          go_wp2_with (go_at_call 113; (with_reducible refine (IsNameContinue_any ..).mono ?_); rw [HN.out]; rintro e w9 ⟨rfl, rfl⟩)
                          go_meet
                          exact ⟨by rw [HK3.out]; simp [HN.out], rfl⟩
                      · have hkk2 : kk = esck a c := by rw [HKK.out, if_neg hd]
                        have bz : ((pos : Int) == 0) = false := by
                          have := HPOS.out
                          have := encs_len dn
                          have : 0 < dn.length := List.length_pos_iff.2 hd
                          simp; omega
                        cases hn : nameCo c
                        all_goals
                          have hkk3 : kk = if nameCo c = true then 0 else 1 := by rw [hkk2, esck, if_neg (by rw [hk0]; decide)]
                          have HK3 := Lib.hid hkk3
                          have HN := Lib.hid hn
                          clear hn hkk3 hkk2 hk0 hd
                          go_wp2_with (go_at_call 113; (with_reducible refine (IsNameContinue_any ..).mono ?_); rw [HN.out]; rintro e w9 ⟨rfl, rfl⟩)
                          go_meet
                          exact ⟨by rw [HK3.out]; simp [HN.out], rfl⟩
                    · have hk0 : hexK a c = true := by unfold hexK; rw [q0, q1]; rfl
                      have HK3 : Hid (kk = 2) := Lib.hid (by rw [HKK.out]; split <;> simp [escF, esck, hk0])
                      simp at q1
                      clear hk0
                      rcases q1 with rfl | rfl | rfl | rfl
                      all_goals
                        go_wp2
                        go_meet
                        exact ⟨by rw [HK3.out], rfl⟩
                  · have hk0 : hexK a c = true := by unfold hexK; rw [q0]; rfl
                    have HK3 : Hid (kk = 2) := Lib.hid (by rw [HKK.out]; split <;> simp [escF, esck, hk0])
                    clear hk0
                    go_wp2
                    go_meet
                    exact ⟨by rw [HK3.out], rfl⟩
                case rest =>
                  obtain ⟨rfl, rfl⟩ := hcut
                  have HKR : Hid (kk = 0 ∨ kk = 1 ∨ kk = 2) := Lib.hid (by
                    rw [HKK.out]
                    split
                    · unfold escF; repeat' split
                      all_goals simp
                    · unfold esck; repeat' split
                      all_goals simp)
                  have HRL := Lib.hid (runeLen_encd c HCC.out)
                  have HL4 := Lib.hid (encd_len c)
                  generalize hLL : (encd c).length = L at *
                  have HLL := Lib.hid hLL
                  clear hLL y7
                  go_upto_region 38 with fail
                  go_cut [16] (fun t wr => t = .bool (wh && decide (kk ≠ 0) && r.isEmpty) ∧ wr2 = wr)
                  case first =>
                    have hle : pos + L ≤ s.size := by have := HZ.out; omega
                    cases wh
                    · have hwi : wi = 1 := HWI.out
                      subst hwi
                      go_wp2
                      go_meet
                      exact ⟨rfl, rfl⟩
                    · have hwi : wi = 0 := HWI.out
                      subst hwi
                      rcases HKR.out with e | e | e
                      · subst e
                        go_wp2
                        go_meet
                        exact ⟨rfl, rfl⟩
                      all_goals
                        subst e
                        cases r with
                        | nil =>
                          have hq : (((pos : Int) + (L : Int)) == (s.size : Int)) = true := by have := HZ.out; simp [encs_nil] at this; simp; omega
                          go_wp2_with (go_at_call 114; (with_reducible refine (Tryz.utf8_RuneLen ..).mono ?_); rw [HRL.out]; rintro e w9 ⟨rfl, rfl⟩)
                          go_meet
                          exact ⟨rfl, rfl⟩
                        | cons d r =>
                          have hq : (((pos : Int) + (L : Int)) == (s.size : Int)) = false := by
                            have := HZ.out
                            have := encs_len (d :: r)
                            simp only [List.length_cons] at this
                            simp; omega
                          go_wp2_with (go_at_call 114; (with_reducible refine (Tryz.utf8_RuneLen ..).mono ?_); rw [HRL.out]; rintro e w9 ⟨rfl, rfl⟩)
                          go_meet
                          exact ⟨rfl, rfl⟩
                  case rest =>
                    obtain ⟨rfl, rfl⟩ := hcut
                    have hlep : pos ≤ s.size := by have := HZ.out; omega
                    have HKV : Hid (kk = 0 ∨ kk = 2 ∨ kk = 1 ∧ (hexv c < 0 ∨ 48 ≤ c ∧ c ≤ 57)) := Lib.hid (kk_ok a 0 c kk dn HKK.out (.inl rfl))
                    have hbb : Hid ((css ++ acc).length + 100 ≤ 140737488355328) := Lib.hid (by
                      have := HI.out.ln
                      have := HPOS.out
                      rw [List.length_append]; omega)
                    generalize hls : (wh && decide (kk ≠ 0) && r.isEmpty) = lst at *
                    have HLS := Lib.hid hls
                    clear hls
                    go_wp2_with (go_at_call 101; (with_reducible refine (Escape_any F G g m a _ _ _ c _ (encs r) _ _ HP.out HCC.out HKV.out hbb.out HX.out).mono ?_); rintro e w9 ⟨rfl, hw9⟩)
                    obtain ⟨v2, acc2, hN⟩ := HI.out.next HCC.out kk HKK.out HS2.out (by rw [HPOS.out, HLL.out]; exact HI2.out) HN2.out g2 (by rw [HLS.out]; exact hw9)
                    refine ⟨⟨dn ++ [c], r, v2, acc2, hN⟩, ?_⟩
                    simp only [World.iterPos, hN.it, HI.out.it, encs_app, encs_cons, encs_nil, List.append_nil, List.length_append]
                    have h1 := HPOS.out
                    have h2 := HLL.out
                    have h3 := HL4.out
                    have h4 := HZ.out
                    omega
        · have hk := take_next s i q b HB0.out HOK.out hO
          have HK := Lib.hid hk
          clear hk
          go_wp2
          refine ⟨⟨i + 1, ?_, by omega, HK.out, rfl⟩, ?_⟩
          · simp
          · simp; omega
    · have hall : ∀ b ∈ encs cs, okB b = true := by
        intro b hb
        have := HOK.out
        rw [List.take_of_length_le (by simp; omega), HS.out] at this
        exact this b hb
      have hP := h.kp hk1
      obtain ⟨y3, y5, y6, y7, y9, y15, yf⟩ := hP.pr.f
      have hown := hP.pr.own
      have hge := hP.pr.ge
      have hlt := hP.pr.lt
      have HE := Lib.hid (identP_ok a wh cs HC.out hall)
      have HP := Lib.hid hP
      clear hall hP
      have hbb : css.length + s.size ≤ 140737488355328 := by omega
      go_wp2_with (at_builtin; refine app_str (.tmp 102) (.tmp 103) rfl rfl G v css rfl hown s rfl hbb hge ?_)
      intro v' w2 hA
      obtain ⟨A', n', cp', rfl⟩ := hA.form
      obtain ⟨c15, d15⟩ := HP.out.pr.at1 hA
      obtain ⟨P2, S2⟩ := HP.out.pr.app hA
      have hw2 := Wr.of h P2 (S2.pre hk1)
      have HW2 := Lib.hid hw2
      clear P2 S2 hw2 hown hge y3 y5 y6 y7 y9 y15 yf hA
      go_wp2
      rw [Exit.jump_ret]
      simp only [Exit.then]
      have hh := HW2.out
      rw [HS.out, ← HE.out] at hh
      exact bodyPost_ret (results_none rfl _ _ _) rfl ⟨rfl, hh⟩

end Go.Proofs.YtkaejhdncohgpaaGreatFmt
