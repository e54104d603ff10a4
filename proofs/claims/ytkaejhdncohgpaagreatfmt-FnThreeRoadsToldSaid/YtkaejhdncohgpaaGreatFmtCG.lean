/- Walk: printTokens. -/
import Derived.Test.YtkaejhdncohgpaaGreatFmtCG2
namespace Go.Proofs.YtkaejhdncohgpaaGreatFmt
set_option linter.all false
open Go.RowKit Go.Lib
set_option maxRecDepth 100000
set_option maxHeartbeats 8000000

theorem tokens_x (F : Go.Stop.Interp) (uq : Bool) (G g : Nat) (m a : Bool) (v : Value) (css : List UInt8) (sl : Value) (t0 : TD) (r0 : List TD) (ind : Int) (dec : Bool) (w : World) (h : Pn F G w g m a v css) (hr : RowAt w (· < G) sl (t0 :: r0)) (hok : TsOk uq (t0 :: r0)) (hq : (!m && dec) = false ∨ NoCm (t0 :: r0)) (hb : css.length + costL (t0 :: r0) + 1000 ≤ 140737488355328) (hQC : uq = true → QuotC F) (ih : ∀ l', costL l' < costL (t0 :: r0) → TokC F uq G l') :
    Calls Tryz.prog 78 #[.pointer (some ⟨g, 0, none⟩), sl, .agg #[.int .i32 ind, .int .u8 0, .bool dec]] w fun e w' => e = .returned (.bool (lastW (firstW (t0 :: r0)) (t0 :: r0))) ∧ Wr F G g m a v w (css ++ rowT a (firstW (t0 :: r0)) (t0 :: r0)) w' := by
  obtain ⟨b, cap, s0, pv0, lc0, pl0, rfl, hbG, hc0, -, -⟩ := RowAt.opn (dn := []) hr
  have hws : t0.ws = 0 ∨ t0.ws = 1 ∨ t0.ws = 2 ∨ t0.ws = 3 := by cases hok with | cons _ _ _ _ _ _ hw => exact hw
  have e1 := (ws_bits t0.ws hws).1
  have E1 : Hid (firstW (t0 :: r0) = decide (t0.ws % 2 = 1)) := Lib.hid rfl
  have hc6 := hc0.h6
  simp only [List.length_nil, Nat.zero_mul, Nat.zero_add] at hc6 hr ⊢
  generalize hl : t0 :: r0 = l at *
  have hll : l.length = r0.length + 1 := by rw [← hl]; rfl
  rw [← hll] at hr ⊢
  have hl0 : 0 < l.length := by omega
  have hl47 : l.length ≤ 140737488355328 := by have := len_cost l; omega
  have hlt := h.pr.lt
  have hge := h.pr.ge
  have hbw : b < w.heap.size := by omega
  obtain ⟨y3, y5, y6, y7, y9, y15, yf⟩ := h.pr.f
  have HQ := Lib.hid hq
  have IH := Lib.hid ih
  clear ih
  have HR := Lib.hid hr
  have HOK := Lib.hid hok
  have HL := Lib.hid hl
  have HLL := Lib.hid hll
  clear hq hr hok hl hll hc0 hws
  go_enter Tryz.func78, Tryz.ntmps78
  go_upto_region 1 with fail
  have hk0 : Kp (fun _ => False) w (w.alloc (.cells #[.int .i32 ind, .int .u8 0, .bool dec] 213)) := (Kp.refl _ w).alloc _
  have hob : (w.alloc (.cells #[.int .i32 ind, .int .u8 0, .bool dec] 213)).heap[w.heap.size]? = some (.cells #[.int .i32 ind, .int .u8 0, .bool dec] 213) := heap_alloc_new w _
  have hsz : w.heap.size < (w.alloc (.cells #[.int .i32 ind, .int .u8 0, .bool dec] 213)).heap.size := by simp
  have hc6' := cell_kp (D := (· < G)) hk0 (fun k hk => by omega) (fun _ h => h.elim) hbG hc6
  generalize w.alloc (.cells #[.int .i32 ind, .int .u8 0, .bool dec] 213) = w1 at *
  obtain ⟨o0, o1, o2⟩ : w1.cell? ⟨w.heap.size, 0, none⟩ = some (.int .i32 ind) ∧ w1.cell? ⟨w.heap.size, 1, none⟩ = some (.int .u8 0) ∧ w1.cell? ⟨w.heap.size, 2, none⟩ = some (.bool dec) := by simp [World.cell?, hob]
  have hp1 := h.kp hk0
  have HOB := Lib.hid hob
  have HK0 := Lib.hid hk0
  clear y3 y5 y6 y7 y9 y15 yf hob hc6 hk0
  obtain ⟨y3, y5, y6, y7, y9, y15, yf⟩ := hp1.pr.f
  have hlt1 := hp1.pr.lt
  have HR1 := Lib.hid (HR.out.kp (D := (· < G)) HK0.out (fun k hk => by omega) (fun _ h => h.elim))
  have HP1 := Lib.hid hp1
  clear hp1
  obtain ⟨md, hmd⟩ : ∃ x : Bool, x = (!m && dec) := ⟨_, rfl⟩
  have HMD := Lib.hid hmd
  clear hmd
  go_upto_region 3 with fail
  go_cut [47] from 38 to 46 (fun t wr => t = .bool md ∧ w1 = wr)
  case first => as_aux_lemma =>
    cases m
    · go_wp2
      go_meet
      exact ⟨by rw [HMD.out]; rfl, rfl⟩
    · go_wp2
      go_meet
      exact ⟨by rw [HMD.out]; rfl, rfl⟩
  case rest => as_aux_lemma =>
  obtain ⟨rfl, rfl⟩ := hcut
  go_upto_if 47 with fail
  go_cut [8, 9, 11] from 48 to 69 (fun t8 _ _ wr => t8 = .int .i64 0 ∧ Kp (fun _ => False) w1 wr)
  case first => as_aux_lemma =>
    cases md
    · go_wp2
      go_meet
      exact ⟨rfl, Kp.refl _ _⟩
    · have hno : NoCm l := by
        rcases HQ.out with h | h
        · rw [← HMD.out] at h; cases h
        · exact h
      have HNO := Lib.hid hno
      clear hno hc6' o1 y3 y5 y6 y7 y9 y15 yf
      go_wp2
      go_loopw [8, 9, 50] (fun av bv i wr => av = .int .i64 0 ∧ bv = .int .i64 0 ∧ ∃ k : Nat, k ≤ l.length ∧ i = .int .i64 k ∧ Kp (fun _ => False) w1 wr) (fun _ _ i _ => l.length - (intOf i).toNat)
      case atStart => exact ⟨rfl, rfl, 0, by omega, rfl, Kp.refl _ _⟩
      case round =>
        obtain ⟨rfl, rfl, k, hk, rfl, hkp⟩ := hrel
        by_cases hlt3 : k < l.length
        · obtain ⟨dn, t, r, hl3, hdn⟩ := split_at l k hlt3
          subst hdn
          have hRr := HR1.out.kp (D := (· < G)) hkp (fun k hk => by omega) (fun _ h => h.elim)
          obtain ⟨b', cap', s, pv, lc, pl, hsl, hD, hc, hs, hp⟩ := RowAt.opn (dn := dn) (r := r) (t := t) (by rw [hl3]; exact hRr)
          have hlen : dn.length + (r.length + 1) = l.length := by rw [← hl3]; simp
          rw [hlen] at hsl
          cases hsl
          obtain ⟨pq, rfl⟩ := hp.ptr
          obtain ⟨h10, h27⟩ := HNO.out t (by rw [← hl3]; simp)
          have b10 : (t.k == 10) = false := by simpa using h10
          obtain ⟨c0, c1, c2, c3, c4, c5, c6⟩ := hc
          have HPP := Lib.hid hp
          have HKP := Lib.hid hkp
          have hgr : g < wr.heap.size := Nat.lt_of_lt_of_le hlt1 hkp.size
          have hszs : Hid (s.size < 35184372088832) := Lib.hid (by
            have h1 : costL l = costL dn + (costT t + costL r) := by rw [← hl3, costL_app, costL]
            have h2 : s.size = (encs t.tx).length := by rw [← hs]; simp
            have h3 : 8 * (encs t.tx).length ≤ costT t := by
              obtain ⟨tk, ttx, tws, tun, tch⟩ := t
              rw [costT]; simp only [TD.tx]; omega
            omega)
          have HL3 := Lib.hid hl3
          clear hRr hlen hs hp hl3 h10 hkp
          by_cases q27 : t.k = 27
          · obtain ⟨p, hpq, hpG, A', cp', hcp⟩ : ∃ p, pq = some ⟨p, 0, none⟩ ∧ p < G ∧ ∃ A' cp', wr.cell? ⟨p, 0, none⟩ = some (.slice A' 0 cp') := by
              have h1 := HPP.out
              rw [h27 q27] at h1
              cases h1 with
              | some p sl _ hp h hr =>
                obtain ⟨A', cp', e, -⟩ := hr.len
                subst e
                exact ⟨p, rfl, hp, A', cp', h⟩
            subst hpq
            have b27 : (t.k == 27) = true := by simpa using q27
            have Q27 := Lib.hid q27
            clear h27 q27
            go_upto_region 8 with fail
            have hkA : Kp (fun _ => False) wr (wr.alloc (.cells #[.pointer (some ⟨p, 0, none⟩), .string s, .int .i32 lc, .int .u32 pl, .int .u16 t.un, .int .u8 t.k, .int .u8 t.ws] 100)) := (Kp.refl _ wr).alloc _
            have hbl := heap_alloc_new wr (.cells #[.pointer (some ⟨p, 0, none⟩), .string s, .int .i32 lc, .int .u32 pl, .int .u16 t.un, .int .u8 t.k, .int .u8 t.ws] 100)
            generalize wr.alloc (.cells #[.pointer (some ⟨p, 0, none⟩), .string s, .int .i32 lc, .int .u32 pl, .int .u16 t.un, .int .u8 t.k, .int .u8 t.ws] 100) = w2 at *
            obtain ⟨d0, d1, d2, d3, d4, d5, d6⟩ := cells7 hbl
            have hP2 := HP1.out.kp (HKP.out.trans hkA)
            have hcp2 : w2.cell? ⟨p, 0, none⟩ = some (.slice A' 0 cp') := cell_kp (D := (· < G)) hkA (fun k hk => by have := HP1.out.pr.ge; have := HKP.out.size; omega) (fun _ f => f.elim) hpG hcp
            have hC := Period_none (.pointer (some ⟨p, 0, none⟩)) s lc pl t.un 0 t.ws w2 hP2.tb.u8 hP2.tb.case hszs.out p _ cp' A' rfl rfl hcp2 (World.block_lt_of_cell? w2 _ hcp2)
            rw [← Q27.out] at hC
            have HC := Lib.hid hC
            have HKA := Lib.hid hkA
            clear hC hkA hbl hP2 hcp hcp2 c0 c1 c2 c3 c4 c5 c6
            go_wp2_with (go_at_call 107; refine HC.out.mono ?_; rintro e w9 ⟨rfl, hk9⟩)
            refine ⟨⟨rfl, rfl, dn.length + 1, by omega, by simp, (HKP.out.trans HKA.out).trans hk9⟩, ?_⟩
            simp [intOf]; omega
          · have b27 : (t.k == 27) = false := by simpa using q27
            clear h27 q27
            have hkA : Kp (fun _ => False) w1 (wr.alloc (.cells #[.pointer pq, .string s, .int .i32 lc, .int .u32 pl, .int .u16 t.un, .int .u8 t.k, .int .u8 t.ws] 100)) := HKP.out.alloc _
            have HKA := Lib.hid hkA
            clear hkA
            go_wp2
            refine ⟨⟨rfl, rfl, dn.length + 1, by omega, by simp, HKA.out⟩, ?_⟩
            simp [intOf]; omega
        · have hge3 : l.length ≤ k := by omega
          have HKP := Lib.hid hkp
          clear hkp
          go_wp2
          go_meet
          exact ⟨rfl, HKP.out⟩
  case rest => as_aux_lemma =>
    obtain ⟨rfl, hk1⟩ := hcut
    have HP2 := Lib.hid (HP1.out.kp hk1)
    have HR2 := Lib.hid (HR1.out.kp (D := (· < G)) hk1 (fun k hk => by omega) (fun _ h => h.elim))
    have HOB2 : Hid (wc.heap[w.heap.size]? = some (.cells #[.int .i32 ind, .int .u8 0, .bool dec] 213)) := Lib.hid (by rw [hk1.block w.heap.size hsz (fun f => f)]; exact HOB.out)
    have hsz2 : w.heap.size < wc.heap.size := Nat.lt_of_lt_of_le hsz hk1.size
    have HK2 := Lib.hid (HK0.out.trans hk1)
    clear HP1 HR1 HOB hsz hk1 HK0 y3 y5 y6 y7 y9 y15 yf o0 o1 o2 hc6' hlt1
    have e7 := E1.out
    rw [← e7]
    clear e1 e7 E1
    have h0 : PtS F G g m a v css l wc (.bool (firstW l)) (.int .i64 0) (.int .i64 0) wc [] l (firstW l) v [] 0 := ⟨rfl, rfl, rfl, rfl, by rw [List.append_nil]; exact HP2.out, Stp.refl _ _ _, rfl, rfl, by simp⟩
    have H0 := Lib.hid h0
    clear h0
    go_wp2
    go_loopw [7, 12, 72] (fun hh c i wr => ∃ dn rs hw v1 acc cn, PtS F G g m a v css l wc hh c i wr dn rs hw v1 acc cn) (fun _ _ i _ => l.length - (intOf i).toNat)
    case atStart => exact ⟨_, _, _, _, _, _, H0.out⟩
    case round =>
      obtain ⟨dn, rs, hw, v1, acc, cn, hI⟩ := hrel
      match rs, hI with
      | [], hI => as_aux_lemma =>
        have q1 := hI.h
        have q2 := hI.c
        have q3 := hI.i
        subst q1 q2 q3
        obtain rfl : dn = l := by have := hI.eq; simpa using this
        have hla := hI.la
        have hac := hI.ac
        have hpn := hI.pn
        have hst := hI.st
        have HLN := Lib.hid hI.ln
        clear hI
        simp only [lastW] at hla
        have HLA := Lib.hid hla
        have HAC := Lib.hid hac
        have HPN := Lib.hid hpn
        have HST := Lib.hid hst
        clear hla hac hpn hst
        have hbb : (css ++ acc).length + 1 ≤ 140737488355328 := by
          have := HLN.out
          rw [costL] at this
          rw [List.length_append]; omega
        cases hw
        · go_wp2
          refine bodyPost_ret (v := .bool false) (by simp [results, Tryz.results78, go_sem]) rfl ⟨ret_bool HLA.out, v1, ?_, Stp.pre HK2.out HST.out⟩
          rw [← HAC.out]
          simpa [rowT] using HPN.out
        · go_wp2_with (go_at_call 73; (with_reducible refine (Print_1 HPN.out _ hbb).mono ?_); rintro e w9 ⟨rfl, hw9⟩)
          obtain ⟨v2, p2, s2⟩ := hw9
          refine bodyPost_ret (v := .bool true) (by simp [results, Tryz.results78, go_sem]) rfl ⟨ret_bool HLA.out, v2, ?_, Stp.pre HK2.out (HST.out.trans s2)⟩
          rw [← HAC.out]
          simpa [rowT] using p2
      | .mk k tx ws un ch :: r, hI =>
        have q1 := hI.h
        have q2 := hI.c
        have q3 := hI.i
        subst q1 q2 q3
        have hRr := HR2.out.kp (D := (· < G)) hI.st.kp (fun k hk => by omega) (far_of HP2.out)
        obtain ⟨b', cap', s, pv, lc, pl, hsl, hD, hc, hs, hp⟩ := RowAt.opn (dn := dn) (r := r) (t := .mk k tx ws un ch) (by rw [hI.eq]; exact hRr)
        have hlen : dn.length + (r.length + 1) = l.length := by rw [← hI.eq]; simp
        rw [hlen] at hsl
        cases hsl
        obtain ⟨pq, rfl⟩ := hp.ptr
        have hO : TsOk uq (.mk k tx ws un ch :: r) := TsOk.drop (dn := dn) (by rw [hI.eq]; exact HOK.out)
        have hi : dn.length < l.length := by omega
        obtain ⟨c0, c1, c2, c3, c4, c5, c6⟩ := hc
        simp only [TD.un, TD.k, TD.ws] at c4 c5 c6
        have HI := Lib.hid hI
        have HLEN := Lib.hid hlen
        have HO := Lib.hid hO
        have HS := Lib.hid hs
        have HPP := Lib.hid hp
        have HRr := Lib.hid hRr
        have hgr := hI.pn.pr.lt
        have hwcr := hI.st.kp.size
        clear hI hRr hlen hO hs hp
        go_upto_region 19 with fail
        have hkA : Kp (fun _ => False) wr (wr.alloc (.cells #[.pointer pq, .string s, .int .i32 lc, .int .u32 pl, .int .u16 un, .int .u8 k, .int .u8 ws] 100)) := (Kp.refl _ wr).alloc _
        have hbl : (wr.alloc (.cells #[.pointer pq, .string s, .int .i32 lc, .int .u32 pl, .int .u16 un, .int .u8 k, .int .u8 ws] 100)).heap[wr.heap.size]? = some (.cells #[.pointer pq, .string s, .int .i32 lc, .int .u32 pl, .int .u16 un, .int .u8 k, .int .u8 ws] 100) := heap_alloc_new wr _
        generalize wr.alloc (.cells #[.pointer pq, .string s, .int .i32 lc, .int .u32 pl, .int .u16 un, .int .u8 k, .int .u8 ws] 100) = w2 at *
        have HKA := Lib.hid hkA
        have HBL := Lib.hid hbl
        have hS0 : StA F G g m a v1 w2 (css ++ acc) w2 v1 := ⟨HI.out.pn.kp hkA, Stp.refl _ _ _⟩
        have HS0 := Lib.hid hS0
        have hgB : g ≠ wr.heap.size := by omega
        have hvB := ne_own HI.out.pn.pr.own (Nat.le_refl _)
        have HVB := Lib.hid hvB
        have hOB : w2.heap[w.heap.size]? = some (.cells #[.int .i32 ind, .int .u8 0, .bool dec] 213) := by
          rw [hkA.block w.heap.size (by omega) (fun f => f)]
          exact keepBlk HI.out.st HOB2.out (by omega) (fun e => by have := (own_lt h.pr.own _ e).2.1; omega)
        have hvO : v1.ownBlock ≠ some w.heap.size := by
          intro e
          rcases HI.out.st.own _ e with e | e
          · have := (own_lt h.pr.own _ e).2.1; omega
          · omega
        have HOB := Lib.hid hOB
        have HVO := Lib.hid hvO
        clear hkA hbl hS0 hvB hOB hvO c0 c1 c2 c3 c4 c5 c6
        obtain ⟨d0, d1, d2, d3, d4, d5, d6⟩ := cells7 HBL.out
        have hws : ws = 0 ∨ ws = 1 ∨ ws = 2 ∨ ws = 3 := by
          cases HO.out with
          | cons _ _ _ _ _ _ hw => exact hw
        have e2 := (ws_bits ws hws).2
        have E2 := Lib.hid e2
        have hko : k ≠ 38 := by
          cases HO.out with
          | cons _ _ _ _ _ _ _ hk => rcases hk with h | h | h | h | ⟨_, h⟩ | h <;> first | omega | (unfold Raw at h; omega)
        have b38 : (k == 38) = false := by simpa using hko
        clear hko e2 hws
        obtain ⟨kb, hkb⟩ : ∃ x : Bool, (k == 10) = x := ⟨_, rfl⟩
        go_upto_if 79 with fail
        clear hkb
        go_cut [12] from 80 to 81 (fun c wx => (∃ n, c = .int .i64 n) ∧ w2 = wx)
        case first => as_aux_lemma =>
          cases kb
          · go_wp2
            go_meet
            exact ⟨⟨_, rfl⟩, rfl⟩
          · go_wp2
            go_meet
            exact ⟨⟨_, rfl⟩, rfl⟩
        case rest => as_aux_lemma =>
        obtain ⟨⟨n, rfl⟩, rfl⟩ := hcut
        go_upto_if 85 with fail
        go_cut [] from 86 to 129 (fun wx => ∃ vx, StA F G g m a v1 w2 (css ++ acc ++ (if hw then [32] else [])) wx vx)
        case first => as_aux_lemma =>
          obtain ⟨y3, y5, y6, y7, y9, y15, yf⟩ := HS0.out.pn.pr.f
          have hbb : (css ++ acc).length + 1 ≤ 140737488355328 := by
            have := HI.out.ln
            rw [List.length_append]; omega
          cases hw
          · go_wp2
            go_meet
            exact ⟨v1, by simpa using HS0.out⟩
          · go_wp2_with (go_at_call 73; (with_reducible refine (Print_1 HS0.out.pn _ hbb).mono ?_); rintro e w9 ⟨rfl, hw9⟩)
            go_meet
            exact HS0.out.go hw9
        case rest => as_aux_lemma =>
        obtain ⟨vx, hA⟩ := hcut
        have HA := Lib.hid hA
        have HBL1 := Lib.hid (keepBlk hA.st HBL.out hgB HVB.out)
        have HOB1 := Lib.hid (keepBlk hA.st HOB.out (by omega) HVO.out)
        have HRc := Lib.hid ((HRr.out.kp (D := (· < G)) HKA.out (fun k hk => by omega) (fun _ h => h.elim)).kp (D := (· < G)) hA.st.kp (fun k hk => by have := HKA.out.size; omega) (far_of HS0.out.pn))
        clear hA d0 d1 d2 d3 d4 d5 d6
        obtain ⟨d0, d1, d2, d3, d4, d5, d6⟩ := cells7 HBL1.out
        go_upto_region 29 with fail
        go_cut [7] from 130 to 150 (fun t wx => t = .bool (nextW (.mk k tx ws un ch) r) ∧ wc = wx)
        case first => as_aux_lemma =>
          have e2 := E2.out
          cases hwa : decide (ws / 2 % 2 = 1)
          · rw [hwa] at e2
            match r, HRc, HLEN, HO with
            | [], HRc, HLEN, HO =>
              have hge1 : l.length ≤ dn.length + 1 := by have := HLEN.out; simp at this; omega
              go_wp2
              go_meet
              exact ⟨nextW_f (r := []) hwa, rfl⟩
            | t2 :: r2, HRc, HLEN, HO =>
              have hlt2 : dn.length + 1 < l.length := by have := HLEN.out; simp at this; omega
              obtain ⟨b2, cap2, s2, pv2, lc2, pl2, hsl2, -, hc2, -, -⟩ := RowAt.opn (dn := dn ++ [.mk k tx ws un ch]) (r := r2) (t := t2) (by simp only [List.append_assoc, List.cons_append, List.nil_append]; rw [HI.out.eq]; exact HRc.out)
              have hx : (dn ++ [TD.mk k tx ws un ch]).length + (r2.length + 1) = l.length := by have := HLEN.out; simp at this ⊢; omega
              rw [hx] at hsl2
              cases hsl2
              have hn6 := hc2.h6
              simp only [List.length_append, List.length_singleton] at hn6
              have e3 : (bits .and .u8 t2.ws 1 != 0) = decide (t2.ws % 2 = 1) := by
                cases HO.out with
                | cons _ _ _ _ _ _ _ _ _ _ _ hr =>
                  cases hr with
                  | cons _ _ _ _ _ _ hw => exact (ws_bits _ hw).1
              have hn7 : wc.cell? ⟨b, ((dn.length : Int) + 1).toNat * 7 + 6, none⟩ = some (.int .u8 t2.ws) := by rw [show ((dn.length : Int) + 1).toNat = dn.length + 1 by omega]; exact hn6
              clear hc2 hx
              go_wp2
              go_meet
              exact ⟨nextW_f (r := t2 :: r2) hwa, rfl⟩
          · rw [hwa] at e2
            go_wp2
            go_meet
            exact ⟨nextW_t hwa, rfl⟩
        case rest => as_aux_lemma =>
        obtain ⟨rfl, rfl⟩ := hcut
        obtain ⟨nw, hnw⟩ : ∃ x, x = nextW (.mk k tx ws un ch) r := ⟨_, rfl⟩
        rw [← hnw]
        have HNW := Lib.hid hnw
        clear hnw
        go_upto_if 152 with fail
        go_cut [15] (fun t wx => t = .int .u8 (if nw then 0 else 1) ∧ wc = wx)
        case first => as_aux_lemma =>
          cases nw
          · go_wp2
            go_meet
            exact ⟨rfl, rfl⟩
          · go_wp2
            go_meet
            exact ⟨rfl, rfl⟩
        case rest => as_aux_lemma =>
        obtain ⟨rfl, rfl⟩ := hcut
        generalize hwi : (if nw = true then (0 : Int) else 1) = wi
        have HWI := Lib.hid hwi
        clear hwi
        obtain ⟨y3, y5, y6, y7, y9, y15, yf⟩ := HA.out.pn.pr.f
        go_upto_block 4 with fail
        go_cut [7] (fun t wx => t = .bool nw ∧ ∃ vy, StA F G g m a v1 w2 (css ++ acc ++ (if hw then [32] else []) ++ coreT a nw k tx un) wx vy)
        case first => as_aux_lemma =>
          have hk : KOk uq k := by
            cases HO.out with
            | cons _ _ _ _ _ _ _ hk => exact hk
          have hsc : ∀ c ∈ tx, Scal c := by
            cases HO.out with
            | cons _ _ _ _ _ _ _ _ hs => exact hs
          have hun : k = 26 → 0 ≤ un ∧ un < 65536 ∧ un.toNat = (encs (spl un.toNat tx).1).length := by
            cases HO.out with
            | cons _ _ _ _ _ _ _ _ _ hu => exact hu
          have HSE : Hid (s.data.toList = encs tx) := Lib.hid HS.out
          have hsz : s.size = (encs tx).length := by rw [← HSE.out]; simp
          have hbb : Hid ((css ++ acc ++ (if hw then [32] else [])).length + 8 * s.size + 200 ≤ 140737488355328) := Lib.hid (by
            have := HI.out.ln
            rw [costL, costT] at this
            have h4 : (if hw then [32] else ([] : List UInt8)).length ≤ 1 := by cases hw <;> simp
            rw [List.length_append, List.length_append]; omega)
          have HSC := Lib.hid hsc
          clear hsc hsz
          refine kinds_x F uq G g m a wr.heap.size pq s lc pl un k ws vx (css ++ acc ++ (if hw then [32] else [])) tx nw wi wc (Lib.hid HA.out.pn) HBL1 hgB (Lib.hid fun e => (HA.out.st.own _ e).elim HVB.out (fun h => by have := (Array.getElem?_eq_some_iff.1 HBL.out).1; omega)) HWI hk hQC (Lib.hid hun) HSC HSE (Lib.hid (by have := hbb.out; omega)) _ _ ?_
          intros
          rename_i wz hS
          obtain ⟨vy, hS⟩ := hS
          dsimp only
          apply_assumption
          refine Met.intro ?_
          apply_assumption
          repeat apply Exists.intro
          exact ⟨⟨rfl, vy, hS.pn, HA.out.st.trans hS.st⟩, rfl⟩
        case rest => as_aux_lemma =>
        obtain ⟨rfl, vy, hB⟩ := hcut
        have hch : ChOk uq k ch := by
          cases HO.out with
          | cons _ _ _ _ _ _ _ _ _ _ hc _ => exact hc
        have hsc : ∀ c ∈ tx, Scal c := by
          cases HO.out with
          | cons _ _ _ _ _ _ _ _ hs => exact hs
        have HCH := Lib.hid hch
        have HSC := Lib.hid hsc
        have HBLx := Lib.hid (keepBlk hB.st HBL.out hgB HVB.out)
        have HOBx := Lib.hid (keepBlk hB.st HOB.out (by omega) HVO.out)
        have hopt : OptAt wc (· < G) (.pointer pq) ch := (OptAt.kp (D := (· < G)) hB.st.kp (fun k hk => by have := HKA.out.size; omega) (far_of HS0.out.pn) (OptAt.kp (D := (· < G)) HKA.out (fun k hk => by omega) (fun _ h => h.elim) HPP.out))
        have HB := Lib.hid hB
        have hcost : acc.length + (8 * (encs tx).length + 400 + costO ch + costL r) ≤ costL l := by
          have := HI.out.ln
          rw [costL, costT] at this; omega
        have hblk1 : (if hw then [32] else ([] : List UInt8)).length ≤ 1 := by cases hw <;> simp
        have hcl := coreT_len a nw k tx un hsc
        apply_assumption
        refine kids_x F uq G g m a wr.heap.size w.heap.size pq s lc pl un k ws ind dec vy (css ++ acc ++ (if hw then [32] else []) ++ coreT a nw k tx un) ch nw wi wc (Lib.hid hB.pn) HBLx HOBx hgB (by omega) (Lib.hid fun e => (hB.st.own _ e).elim HVB.out (fun h => by have := (Array.getElem?_eq_some_iff.1 HBL.out).1; omega)) (Lib.hid fun e => (hB.st.own _ e).elim HVO.out (fun h => by have := (Array.getElem?_eq_some_iff.1 HOB.out).1; omega)) hopt hch (fun l' e => IH.out l' (by rw [e, costO] at hcost; omega)) (by simp only [List.length_append]; omega) _ (fun _ ⟨t1, d1⟩ ⟨t2, d2⟩ _ e h => by have e' : d1 = d2 := e; subst e'; exact h) ?_
        intros
        rename_i wz hS
        obtain ⟨vq, hS⟩ := hS
        have HQ2 : Hid (StA F G g m a v1 w2 (css ++ acc ++ (if hw then [32] else []) ++ coreT a nw k tx un ++ optT a k ch) wz vq) := Lib.hid ⟨hS.pn, hB.st.trans hS.st⟩
        clear hS hB hopt hch hcost hsc d0 d1 d2 d3 d4 d5 d6 y3 y5 y6 y7 y9 y15 yf
        go_wp2
        refine ⟨⟨_, r, nw, vq, _, n, PtS.next2 HI.out HKA.out n nw HNW.out HQ2.out HSC.out HCH.out⟩, ?_⟩
        simp [intOf]; omega
end Go.Proofs.YtkaejhdncohgpaaGreatFmt