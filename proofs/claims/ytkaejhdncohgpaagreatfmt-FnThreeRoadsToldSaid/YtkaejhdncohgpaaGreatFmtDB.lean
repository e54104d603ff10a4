/- Walks: printQuotedWithQuote at either kind of quotes; printQuoted. Condition: at most about 2^44 bytes. -/
import Derived.Test.YtkaejhdncohgpaaGreatFmtDA
import Derived.Test.YtkaejhdncohgpaaGreatFmtCR
import Derived.Test.YtkaejhdncohgpaaGreatFmtCG1
namespace Go.Proofs.YtkaejhdncohgpaaGreatFmt
set_option linter.all false
open Go.RowKit Go.Lib
set_option maxRecDepth 100000
set_option maxHeartbeats 4000000

theorem step_app_str {w : World} {ops : Array Oper} {o : Oper} {a : Act} {K : Act → World → Prop} {Q : Exit → Act → World → Prop} {E : Prop} (sl x : Operand)
    (ho : o.op = .call { callee := .builtin .append, args := #[sl, x], argTypes := #[34, 9] }) (hgd : o.guard = none)
    (G : Nat) (v : Value) (css : List UInt8) (hs : a.eval sl = v) (hown : w.ownsRow G 5 1 v css.length (bys css)) (s : ByteArray) (hx : a.eval x = .string s) (hb : css.length + s.size ≤ 140737488355328) (hG : G ≤ w.heap.size)
    (h : ∀ v' w1, App G w v css s.data.toList v' w1 → K (a.put o.dst v') w1) : if Region.wanted o (yielded ops a.tmps) = true then Oper.wp Tryz.prog o a w K Q else E := by
  have hw : Region.wanted o (yielded ops a.tmps) = true := by simp [Region.wanted, hgd]
  rw [if_pos hw]
  obtain ⟨i0, hi, hz0, hz1, hz2⟩ := info_parts info5
  have h63 : css.length + s.size ≤ maxLen := by unfold maxLen; omega
  obtain ⟨v', w', hr, h1, h2, h3⟩ := Lib.run_append_own_string (P := Tryz.prog) w G 34 9 o.type 5 i0 Tryz.underlying34 Tryz.underlying9 hi hz0 hz1 hz2 v css.length (bys css) hown s h63 hb hG
  have h4 := place_string (P := Tryz.prog) w G 34 9 o.type 5 i0 Tryz.underlying34 Tryz.underlying9 hi hz0 hz1 hz2 v css.length (bys css) hown s h63 hb hr h3
  have hA : App G w v css s.data.toList v' w' := ⟨by rw [bys_append, List.length_append]; exact h1, h2, h4, own_slice h1⟩
  unfold Oper.wp
  simp [execOp, ho, resolve, invoke, builtin, hs, hx, hr, Result.andThen]
  exact h v' w' hA

def lstC (l : List Int) : Int := l.getLastD 0
theorem lstC_snoc (l : List Int) (c : Int) : lstC (l ++ [c]) = c := by simp [lstC]
/-- The state of the loop over a text in quotes: d1 is printed, pe waits, rs is left. -/
structure QtS (F : Go.Stop.Interp) (G g : Nat) (m a : Bool) (v : Value) (css : List UInt8) (cs : List Int) (q : Int) (w : World) (t9 t10 : Value) (wr : World) (d1 pe rs : List Int) (v1 : Value) (acc : List UInt8) : Prop where
  eq : d1 ++ (pe ++ rs) = cs
  i : t9 = .int .i64 ((encs (d1 ++ pe)).length : Nat)
  r : t10 = .int .i64 ((encs d1).length : Nat)
  pn : Pn F G wr g m a v1 (css ++ encd q ++ acc)
  st : Stp g v v1 w wr
  ac : acc ++ (encs pe ++ quotT a q (lstC (d1 ++ pe)) rs) = quotT a q 0 cs
  ln : acc.length ≤ 8 * (encs d1).length

theorem last_byte (l : List Int) (c : Int) (h : Scal c) : ∃ b, (encs (l ++ [c])).getLast? = some b ∧ ((b.toNat : Int) = 60 ↔ c = 60) := by
  have e : encs (l ++ [c]) = encs l ++ encd c := by rw [encs_app, encs_cons, encs_nil, List.append_nil]
  rw [e]
  unfold Scal at h
  by_cases a1 : c < 128
  · refine ⟨UInt8.ofNat (c % 256).toNat, by rw [encd1 a1, List.getLast?_append]; rfl, ?_⟩
    rw [UInt8.toNat_ofNat']; omega
  by_cases a2 : c < 2048
  · refine ⟨UInt8.ofNat (128 + c.toNat % 64), by rw [encd2 (by omega) a2, List.getLast?_append]; rfl, ?_⟩
    rw [UInt8.toNat_ofNat']; omega
  by_cases a3 : c < 65536
  · refine ⟨UInt8.ofNat (128 + c.toNat % 64), by rw [encd3 (by omega) a3, List.getLast?_append]; rfl, ?_⟩
    rw [UInt8.toNat_ofNat']; omega
  · refine ⟨UInt8.ofNat (128 + c.toNat % 64), by rw [encd4 (by omega), List.getLast?_append]; rfl, ?_⟩
    rw [UInt8.toNat_ofNat']; omega
theorem QtS.plain {F : Go.Stop.Interp} {G g : Nat} {m a : Bool} {v : Value} {css : List UInt8} {cs : List Int} {q : Int} {w : World} {t9 t10 : Value} {wr : World} {d1 pe r : List Int} {c : Int} {v1 : Value} {acc : List UInt8} (h : QtS F G g m a v css cs q w t9 t10 wr d1 pe (c :: r) v1 acc) (hk0 : qk a q (lstC (d1 ++ pe)) c r = 0) {wx : World} (hk : Kp (fun _ => False) wr wx) (t : Value) (ht : t = .int .i64 (((encs (d1 ++ pe)).length + (encd c).length : Nat) : Int)) :
    QtS F G g m a v css cs q w t t10 wx d1 (pe ++ [c]) r v1 acc := by
  refine ⟨by rw [← h.eq]; simp, ?_, h.r, h.pn.kp hk, h.st.post hk, ?_, h.ln⟩
  · rw [ht, ← List.append_assoc, encs_app (d1 ++ pe) [c], encs_cons, encs_nil, List.append_nil, List.length_append]
  · have := h.ac
    rw [quotT, hk0] at this
    rw [← List.append_assoc d1, lstC_snoc, encs_app, encs_cons, encs_nil, List.append_nil, ← this]
    simp [escP]
theorem QtS.esc {F : Go.Stop.Interp} {G g : Nat} {m a : Bool} {v : Value} {css : List UInt8} {cs : List Int} {q : Int} {w : World} {t9 t10 : Value} {wr : World} {d1 pe r : List Int} {c : Int} {v1 : Value} {acc : List UInt8} (h : QtS F G g m a v css cs q w t9 t10 wr d1 pe (c :: r) v1 acc) (hcc : Scal c) {wx : World} {vx : Value} (hp : Pn F G wx g m a vx (css ++ encd q ++ (acc ++ encs pe) ++ escP (qk a q (lstC (d1 ++ pe)) c r) c (encs r) false)) (hst : Stp g v1 vx wr wx) (t t' : Value) (ht : t = .int .i64 (((encs (d1 ++ pe)).length + (encd c).length : Nat) : Int)) (ht' : t' = .int .i64 (((encs (d1 ++ pe)).length + (encd c).length : Nat) : Int)) :
    QtS F G g m a v css cs q w t t' wx (d1 ++ (pe ++ [c])) [] r vx (acc ++ encs pe ++ escP (qk a q (lstC (d1 ++ pe)) c r) c (encs r) false) := by
  have e : encs (d1 ++ (pe ++ [c])) = encs (d1 ++ pe) ++ encd c := by rw [← List.append_assoc, encs_app (d1 ++ pe) [c], encs_cons, encs_nil, List.append_nil]
  refine ⟨by rw [← h.eq]; simp, ?_, ?_, ?_, h.st.trans hst, ?_, ?_⟩
  · rw [ht, List.append_nil, e, List.length_append]
  · rw [ht', e, List.length_append]
  · have e2 : css ++ encd q ++ (acc ++ encs pe ++ escP (qk a q (lstC (d1 ++ pe)) c r) c (encs r) false) = css ++ encd q ++ (acc ++ encs pe) ++ escP (qk a q (lstC (d1 ++ pe)) c r) c (encs r) false := by simp
    rw [e2]; exact hp
  · have := h.ac
    rw [quotT] at this
    rw [List.append_nil, ← List.append_assoc d1, lstC_snoc, encs_nil, List.nil_append, ← this]
    simp
  · have h1 := h.ln
    have h2 := escP_len (qk a q (lstC (d1 ++ pe)) c r) c (encs r) false (by unfold Scal at hcc; omega) (by unfold Scal at hcc; omega)
    have h3 := (encd_len c).1
    rw [e, encs_app]
    simp only [List.length_append]
    omega

theorem Has_0 (w : World) : Calls Tryz.prog 99 #[.int .u16 0, .int .u16 64] w fun e w' => e = .returned (.bool false) ∧ w' = w := by
  go_enter Tryz.func99, Tryz.ntmps99
  go_wp2
  go_ret
  exact ⟨rfl, rfl⟩
theorem ext_mid (s : ByteArray) (A B C : List UInt8) (h : s.data.toList = A ++ (B ++ C)) (i j : Nat) (hi : i = A.length) (hj : j = A.length + B.length) : (s.extract i j).data.toList = B := by
  subst hi hj
  rw [ByteArray.data_extract, Array.toList_extract, List.extract_eq_take_drop, h, List.drop_left, Nat.add_sub_cancel_left, List.take_left]
theorem styl_take (l : List UInt8) (n : Nat) (hn : 5 ≤ n) : styl (l.take n) = styl l := by
  unfold styl
  rw [List.take_take, Nat.min_eq_left hn]
theorem styl_short (l : List UInt8) (h : l.length < 5) : styl l = false := by
  unfold styl
  rw [beq_eq_false_iff_ne]
  intro e
  have := congrArg List.length e
  simp at this
  omega
theorem qk_vals (a : Bool) (q p c : Int) (r : List Int) (hq : q = 39 ∨ q = 34) : qk a q p c r = 0 ∨ qk a q p c r = 2 ∨ qk a q p c r = 1 ∧ (hexv c < 0 ∨ 48 ≤ c ∧ c ≤ 57) := by
  unfold qk
  repeat' split
  all_goals first
    | (left; rfl)
    | (right; left; rfl)
    | (right; right
       refine ⟨rfl, .inl ?_⟩
       unfold hexv
       rw [if_neg (by rw [Bool.not_eq_true]; exact isDig_not.2 (by omega)), if_neg (by omega), if_neg (by omega)]
       omega)
theorem Quote_any (F : Go.Stop.Interp) (G g : Nat) (m a : Bool) (v : Value) (css : List UInt8) (s : ByteArray) (cs : List Int) (qb : UInt8) (hq : (qb.toNat : Int) = 39 ∨ (qb.toNat : Int) = 34) (w : World) (h : Pn F G w g m a v css) (hc : ∀ c ∈ cs, Scal c) (hs : s.data.toList = encs cs) (hb : css.length + 8 * s.size + 200 ≤ 140737488355328) :
    Calls Tryz.prog 74 #[.pointer (some ⟨g, 0, none⟩), .string s, .int .u8 (qb.toNat : Nat), .int .u8 0] w fun e w' => e = .returned (.tuple #[]) ∧ Wr F G g m a v w (css ++ encd (qb.toNat : Int) ++ quotT a (qb.toNat : Int) 0 cs ++ encd (qb.toNat : Int)) w' := by
  have hbq : encd (qb.toNat : Int) = [qb] := by
    rw [encd1 (by omega)]
    have : UInt8.ofNat ((qb.toNat : Int) % 256).toNat = qb := by
      apply UInt8.toNat_inj.1
      rw [UInt8.toNat_ofNat']
      omega
    rw [this]
  have hk1 : Kp (fun _ => False) w (w.alloc (.cells #[.int .u8 (qb.toNat : Nat)] 5)) := (Kp.refl _ w).alloc _
  have hn1 := h.kp hk1
  have hp1 := hn1.pr
  obtain ⟨A, n, cp, rfl⟩ := own_slice hp1.own
  obtain ⟨y3, y5, y6, y7, y9, y15, yf⟩ := h.pr.f
  obtain ⟨z3, z5, z6, z7, z9, z15, zf⟩ := hp1.f
  have hown := hp1.own
  have hge := hp1.ge
  have hlt := h.pr.lt
  have hbt : css.length + 1 ≤ 140737488355328 := by omega
  have hsz : s.size = (encs cs).length := by rw [← hs]; simp
  have q0 : ((qb.toNat : Int) == 0) = false := by simp; omega
  have HS := Lib.hid hs
  have HC := Lib.hid hc
  have HBQ := Lib.hid hbq
  have HQQ := Lib.hid hq
  have HSZ := Lib.hid hsz
  have H := Lib.hid h
  have HB := Lib.hid hb
  have HN1 := Lib.hid hn1
  have HK1 := Lib.hid hk1
  clear hs hc hbq hsz hn1 h hq
  go_enter Tryz.func74, Tryz.ntmps74
  go_wp2_with (at_builtin; refine app_bys (.tmp 22) (.tmp 24) rfl rfl G _ css rfl hown ⟨w.heap.size, 0, none⟩ 1 1 [qb] (by simp [Act.eval]) rfl (fun j u hu => kk_lit92 j u qb hu) hbt hge ?_)
  intro v1 w1 hA
  obtain ⟨A1, n1, cp1, rfl⟩ := hA.form
  generalize w.alloc (.cells #[.int .u8 (qb.toNat : Nat)] 5) = W1 at *
  obtain ⟨c15, d15⟩ := hp1.at1 hA
  obtain ⟨P2, S2⟩ := hp1.app hA
  have hN2 := HN1.out.step P2 S2
  rw [← HBQ.out] at hN2
  have hS2 := Stp.pre HK1.out S2
  clear hA P2 S2 hown hge y3 y5 y6 y7 y9 y15 yf z3 z5 z6 z7 z9 z15 zf hbt
  go_upto_region 2 with fail
  clear c15 d15
  generalize w1.setCell ⟨g, 15, none⟩ (.slice A1 n1 cp1) = W2 at *
  have h0 : QtS F G g m a (.slice A n cp) css cs (qb.toNat : Int) w (.int .i64 0) (.int .i64 0) W2 [] [] cs (.slice A1 n1 cp1) [] := ⟨rfl, rfl, rfl, by rw [List.append_nil]; exact hN2, hS2, by simp [encs_nil, lstC], by simp⟩
  have H0 := Lib.hid h0
  obtain ⟨y3, y5, y6, y7, y9, y15, yf⟩ := hN2.pr.f
  clear h0 hN2 hS2
  go_wp2
  clear y3 y5 y6 y7 y9 y15 yf
  go_loopw [9, 10] (fun t9 t10 wr => ∃ d1 pe rs v1 acc, QtS F G g m a (.slice A n cp) css cs (qb.toNat : Int) w t9 t10 wr d1 pe rs v1 acc) (fun t9 _ _ => s.size - (intOf t9).toNat)
  case atStart => exact ⟨_, _, _, _, _, H0.out⟩
  case round =>
    obtain ⟨d1, pe, rs, v1, acc, hI⟩ := hrel
    have q1 := hI.i
    have q2 := hI.r
    subst q1 q2
    obtain ⟨A3, n3, cp3, rfl⟩ := own_slice hI.pn.pr.own
    obtain ⟨R, hR⟩ : ∃ R, (encs d1).length = R := ⟨_, rfl⟩
    obtain ⟨I, hIq⟩ : ∃ I, (encs (d1 ++ pe)).length = I := ⟨_, rfl⟩
    rw [hR, hIq]
    have hRI : I = R + (encs pe).length := by rw [← hIq, ← hR, encs_app, List.length_append]
    match rs, hI with
    | [], hI =>
      have hIs : I = s.size := by
        have := hI.eq
        rw [List.append_nil] at this
        rw [← hIq, this, HSZ.out]
      have hac := hI.ac
      rw [quotT, List.append_nil] at hac
      have hsl : (s.extract R s.size).data.toList = encs pe := by
        refine ext_mid s (encs d1) (encs pe) [] ?_ R s.size hR.symm (by omega)
        rw [HS.out, ← hI.eq, List.append_nil, List.append_nil, encs_app]
      have hpe : R < s.size ↔ pe ≠ [] := by
        have := encs_len pe
        constructor
        · intro h1 h2; subst h2; simp [encs_nil] at hRI; omega
        · intro h1; have := List.length_pos_iff.2 h1; omega
      have hln := hI.ln
      have hpl := encs_len pe
      have hd1 : (encs d1).length = R := hR
      have HIq := Lib.hid hI
      have HPN := Lib.hid hI.pn
      have HAC := Lib.hid hac
      have hbt : (css ++ encd (qb.toNat : Int) ++ acc).length + (s.extract R s.size).size ≤ 140737488355328 := by
        have h1 : (s.extract R s.size).data.toList.length = (encs pe).length := congrArg List.length hsl
        have h2 : (s.extract R s.size).data.toList.length = (s.extract R s.size).size := by simp
        rw [List.length_append, List.length_append, HBQ.out, List.length_singleton]
        omega
      obtain ⟨sP, hsPe⟩ : ∃ z, s.extract R s.size = z := ⟨_, rfl⟩
      rw [hsPe] at hsl hbt
      have HSL := Lib.hid hsl
      have HPE := Lib.hid hpe
      have hRs : (R : Int) ≤ (s.size : Int) := by omega
      obtain ⟨y3, y5, y6, y7, y9, y15, yf⟩ := HPN.out.pr.f
      have bI : ¬ (I : Int) < (s.size : Int) := by omega
      clear hI hac hsl hpe hIq hR hln hpl hd1 hRI hIs
      by_cases hp : R < s.size
      · have g1 : (R : Int) < (s.size : Int) := by omega
        have hpd := HPN.out.pr.below ((Kp.refl _ wr).drew)
        have HP := Lib.hid hpd
        obtain ⟨z15, zf⟩ : (wr.drew).cell? ⟨g, 15, none⟩ = some (.slice A3 n3 cp3) ∧ (wr.drew).frozen? ⟨g, 15, none⟩ = false := ⟨y15, yf⟩
        clear hpd hp
        go_upto_region 50 with fail
        go_region_law ((refine step_app_str (.tmp 218) (.tmp 221) (by rfl) (by rfl) G _ (css ++ encd (qb.toNat : Int) ++ acc) (by rfl) HP.out.own sP (by rfl) hbt HP.out.ge ?_; intro v' w1 hA; obtain ⟨A', n', cp', rfl⟩ := hA.form; obtain ⟨c15, d15⟩ := HP.out.at1 hA))
        obtain ⟨P5, S5⟩ := HP.out.app hA
        have hW5 : StA F G g m a (.slice A3 n3 cp3) wr (css ++ encd (qb.toNat : Int) ++ quotT a (qb.toNat : Int) 0 cs) (w1.setCell ⟨g, 15, none⟩ (.slice A' n' cp')) (.slice A' n' cp') := by
          have hst : Stp g (.slice A3 n3 cp3) (.slice A' n' cp') wr (w1.setCell ⟨g, 15, none⟩ (.slice A' n' cp')) := Stp.pre ((Kp.refl _ wr).drew) S5
          refine ⟨HPN.out.step ?_ hst, hst⟩
          have e : css ++ encd (qb.toNat : Int) ++ quotT a (qb.toNat : Int) 0 cs = css ++ encd (qb.toNat : Int) ++ acc ++ sP.data.toList := by rw [← HAC.out, HSL.out]; simp
          rw [e]; exact P5
        have HSX := Lib.hid hW5
        clear P5 S5 hW5 z15 zf y3 y5 y6 y7 y9 y15 yf c15 d15 hA
        generalize w1.setCell ⟨g, 15, none⟩ (.slice A' n' cp') = wc at *
        generalize Value.slice A' n' cp' = vc at *
        obtain ⟨A4, n4, cp4, rfl⟩ := own_slice HSX.out.pn.pr.own
        obtain ⟨z3, z5, z6, z7, z9, z15, zf⟩ := HSX.out.pn.pr.f
        have hk6 : Kp (fun _ => False) wc (wc.alloc (.cells #[.int .u8 (qb.toNat : Nat)] 5)) := (Kp.refl _ wc).alloc _
        have hn6 := HSX.out.pn.kp hk6
        have hp6 := hn6.pr
        obtain ⟨x3, x5, x6, x7, x9, x15, xf⟩ := hp6.f
        have hql := quotT_len a (qb.toNat : Int) 0 cs HC.out
        have hbt6 : (css ++ encd (qb.toNat : Int) ++ quotT a (qb.toNat : Int) 0 cs).length + 1 ≤ 140737488355328 := by
          have := HSZ.out
          rw [List.length_append, List.length_append, HBQ.out, List.length_singleton]; omega
        have HST := Lib.hid HIq.out.st
        have HN6 := Lib.hid hn6
        have HK6 := Lib.hid hk6
        clear hn6 hql hk6
        go_wp2_with (at_builtin; refine app_bys (.tmp 231) (.tmp 233) rfl rfl G _ (css ++ encd (qb.toNat : Int) ++ quotT a (qb.toNat : Int) 0 cs) rfl HN6.out.pr.own ⟨wc.heap.size, 0, none⟩ 1 1 [qb] (by simp [Act.eval]) rfl (fun j u hu => kk_lit92 j u qb hu) hbt6 HN6.out.pr.ge ?_)
        intro v7 w7 hA7
        try simp only [← List.append_assoc] at hA7
        obtain ⟨A7, n7, cp7, rfl⟩ := hA7.form
        generalize wc.alloc (.cells #[.int .u8 (qb.toNat : Nat)] 5) = W6 at *
        obtain ⟨c15, d15⟩ := HN6.out.pr.at1 hA7
        obtain ⟨P7, S7⟩ := HN6.out.pr.app hA7
        have hF7 := HN6.out.step P7 S7
        have hW7 : Wr F G g m a (.slice A n cp) w (css ++ encd (qb.toNat : Int) ++ quotT a (qb.toNat : Int) 0 cs ++ encd (qb.toNat : Int)) (w7.setCell ⟨g, 15, none⟩ (.slice A7 n7 cp7)) :=
          ⟨_, by rw [HBQ.out] at hF7 ⊢; exact hF7, HST.out.trans (HSX.out.st.trans (Stp.pre HK6.out S7))⟩
        have HW7 := Lib.hid hW7
        clear P7 S7 hF7 hW7 x3 x5 x6 x7 x9 x15 z3 z5 z6 z7 z9 z15 zf
        go_wp2
        go_end0
        exact ⟨rfl, HW7.out⟩
      · have g1 : ¬ (R : Int) < (s.size : Int) := by omega
        have hpe0 : pe = [] := by
          have h1 := HPE.out
          by_cases e : pe = []
          · exact e
          · exact absurd (h1.2 e) hp
        have HSX : Hid (StA F G g m a (.slice A3 n3 cp3) wr (css ++ encd (qb.toNat : Int) ++ quotT a (qb.toNat : Int) 0 cs) wr (.slice A3 n3 cp3)) := Lib.hid ⟨by
          have h1 := HAC.out
          rw [hpe0, encs_nil, List.append_nil] at h1
          rw [← h1]; exact HPN.out, Stp.refl _ _ _⟩
        clear hpe0 hp y3 y5 y6 y7 y9 y15 yf
        obtain ⟨z3, z5, z6, z7, z9, z15, zf⟩ := HSX.out.pn.pr.f
        have hk6 : Kp (fun _ => False) wr (wr.alloc (.cells #[.int .u8 (qb.toNat : Nat)] 5)) := (Kp.refl _ wr).alloc _
        have hn6 := HSX.out.pn.kp hk6
        have hp6 := hn6.pr
        obtain ⟨x3, x5, x6, x7, x9, x15, xf⟩ := hp6.f
        have hql := quotT_len a (qb.toNat : Int) 0 cs HC.out
        have hbt6 : (css ++ encd (qb.toNat : Int) ++ quotT a (qb.toNat : Int) 0 cs).length + 1 ≤ 140737488355328 := by
          have := HSZ.out
          rw [List.length_append, List.length_append, HBQ.out, List.length_singleton]; omega
        have HST := Lib.hid HIq.out.st
        have HN6 := Lib.hid hn6
        have HK6 := Lib.hid hk6
        clear hn6 hql hk6
        go_wp2_with (at_builtin; refine app_bys (.tmp 231) (.tmp 233) rfl rfl G _ (css ++ encd (qb.toNat : Int) ++ quotT a (qb.toNat : Int) 0 cs) rfl HN6.out.pr.own ⟨wr.heap.size, 0, none⟩ 1 1 [qb] (by simp [Act.eval]) rfl (fun j u hu => kk_lit92 j u qb hu) hbt6 HN6.out.pr.ge ?_)
        intro v7 w7 hA7
        try simp only [← List.append_assoc] at hA7
        obtain ⟨A7, n7, cp7, rfl⟩ := hA7.form
        generalize wr.alloc (.cells #[.int .u8 (qb.toNat : Nat)] 5) = W6 at *
        obtain ⟨c15, d15⟩ := HN6.out.pr.at1 hA7
        obtain ⟨P7, S7⟩ := HN6.out.pr.app hA7
        have hF7 := HN6.out.step P7 S7
        have hW7 : Wr F G g m a (.slice A n cp) w (css ++ encd (qb.toNat : Int) ++ quotT a (qb.toNat : Int) 0 cs ++ encd (qb.toNat : Int)) (w7.setCell ⟨g, 15, none⟩ (.slice A7 n7 cp7)) :=
          ⟨_, by rw [HBQ.out] at hF7 ⊢; exact hF7, HST.out.trans (HSX.out.st.trans (Stp.pre HK6.out S7))⟩
        have HW7 := Lib.hid hW7
        clear P7 S7 hF7 hW7 x3 x5 x6 x7 x9 x15 z3 z5 z6 z7 z9 z15 zf
        go_wp2
        go_end0
        exact ⟨rfl, HW7.out⟩
    | c :: r, hI =>
      have hcc : Scal c := HC.out c (by rw [← hI.eq]; simp)
      have hcl := encd_len c
      have htot : I + (encd c).length + (encs r).length = s.size := by
        have h1 := congrArg (fun l => (encs l).length) hI.eq
        simp only [← List.append_assoc, encs_app (d1 ++ pe), encs_cons, List.length_append] at h1
        have h2 := HSZ.out
        have h3 : (encs (d1 ++ pe)).length = I := hIq
        omega
      have hRI2 : (R : Int) ≤ (I : Int) := by omega
      have hIn : (I : Int) < (s.size : Int) := by omega
      have hsI : (s.extract I s.size).data.toList = encd c ++ encs r := by
        refine ext_mid s (encs (d1 ++ pe)) (encd c ++ encs r) [] ?_ I s.size hIq.symm (by rw [List.length_append]; omega)
        rw [HS.out, ← hI.eq, ← List.append_assoc, encs_app, encs_cons, List.append_nil]
      have hsP : (s.extract R I).data.toList = encs pe := by
        refine ext_mid s (encs d1) (encs pe) (encs (c :: r)) ?_ R I hR.symm (by omega)
        rw [HS.out, ← hI.eq, encs_app, encs_app]
      obtain ⟨sI, hsIe⟩ : ∃ z, s.extract I s.size = z := ⟨_, rfl⟩
      obtain ⟨sP, hsPe⟩ : ∃ z, s.extract R I = z := ⟨_, rfl⟩
      rw [hsIe] at hsI
      rw [hsPe] at hsP
      have HSI := Lib.hid hsI
      have HSP := Lib.hid hsP
      have HI := Lib.hid hI
      have HCC := Lib.hid hcc
      have HD := Lib.hid (Decode_cons sI c (encs r) wr hI.pn.tb.u8 hcc hsI)
      have HRI := Lib.hid hRI
      have HTOT := Lib.hid htot
      have HIQ := Lib.hid hIq
      have HRQ := Lib.hid hR
      have hwl : (encd c).length ≤ 4 := hcl.2
      have hc0 : 0 ≤ c := by unfold Scal at hcc; omega
      have hc1 : c ≤ 1114111 := by unfold Scal at hcc; omega
      generalize hwd : (encd c).length = wd at *
      have HWD := Lib.hid hwd
      clear hI hcc hsI hsP hRI htot hIq hR hcl hwd
      go_upto_block 2 with (go_at_call 98; refine HD.out.mono ?_; rintro e wD ⟨rfl, hkd⟩)
      have hpnD := HI.out.pn.kp hkd
      have HKD := Lib.hid hkd
      have HPD := Lib.hid hpnD
      obtain ⟨y3, y5, y6, y7, y9, y15, yf⟩ := hpnD.pr.f
      clear hkd hpnD HD
      go_cut [15] from 112 to 180 (fun t wx => t = .int .u8 (qk a (qb.toNat : Int) (lstC (d1 ++ pe)) c r) ∧ Kp (fun _ => False) wD wx)
      case first =>
        have hq := HQQ.out
        by_cases e0 : c = 0
        · have f0 : (c == 0) = true := by simp; omega
          have HE : Hid (qk a (qb.toNat : Int) (lstC (d1 ++ pe)) c r = 2) := Lib.hid (by unfold qk; rw [if_pos (by omega)])
          clear HQQ
          go_wp2
          go_meet
          exact ⟨by rw [HE.out], Kp.refl _ _⟩
        by_cases e13 : c = 13
        · have f0 : (c == 0) = false := by simp; omega
          have f13 : (c == 13) = true := by simp; omega
          have HE : Hid (qk a (qb.toNat : Int) (lstC (d1 ++ pe)) c r = 2) := Lib.hid (by unfold qk; rw [if_pos (by omega)])
          clear HQQ
          go_wp2
          go_meet
          exact ⟨by rw [HE.out], Kp.refl _ _⟩
        by_cases e10 : c = 10
        · have f0 : (c == 0) = false := by simp; omega
          have f13 : (c == 13) = false := by simp; omega
          have f10 : (c == 10) = true := by simp; omega
          have HE : Hid (qk a (qb.toNat : Int) (lstC (d1 ++ pe)) c r = 2) := Lib.hid (by unfold qk; rw [if_pos (by omega)])
          clear HQQ
          go_wp2
          go_meet
          exact ⟨by rw [HE.out], Kp.refl _ _⟩
        by_cases e12 : c = 12
        · have f0 : (c == 0) = false := by simp; omega
          have f13 : (c == 13) = false := by simp; omega
          have f10 : (c == 10) = false := by simp; omega
          have f12 : (c == 12) = true := by simp; omega
          have HE : Hid (qk a (qb.toNat : Int) (lstC (d1 ++ pe)) c r = 2) := Lib.hid (by unfold qk; rw [if_pos (by omega)])
          clear HQQ
          go_wp2
          go_meet
          exact ⟨by rw [HE.out], Kp.refl _ _⟩
        by_cases e92 : c = 92
        · have f0 : (c == 0) = false := by simp; omega
          have f13 : (c == 13) = false := by simp; omega
          have f10 : (c == 10) = false := by simp; omega
          have f12 : (c == 12) = false := by simp; omega
          have f92 : (c == 92) = true := by simp; omega
          have HE : Hid (qk a (qb.toNat : Int) (lstC (d1 ++ pe)) c r = 1) := Lib.hid (by unfold qk; rw [if_neg (by omega), if_pos (by omega)])
          clear HQQ
          go_wp2
          go_meet
          exact ⟨by rw [HE.out], Kp.refl _ _⟩
        by_cases eq : c = (qb.toNat : Int)
        · have f0 : (c == 0) = false := by simp; omega
          have f13 : (c == 13) = false := by simp; omega
          have f10 : (c == 10) = false := by simp; omega
          have f12 : (c == 12) = false := by simp; omega
          have f92 : (c == 92) = false := by simp; omega
          have fq : (c == (qb.toNat : Int)) = true := by simp; omega
          have HE : Hid (qk a (qb.toNat : Int) (lstC (d1 ++ pe)) c r = 1) := Lib.hid (by unfold qk; rw [if_neg (by omega), if_pos (by omega)])
          clear HQQ
          go_wp2
          go_meet
          exact ⟨by rw [HE.out], Kp.refl _ _⟩
        by_cases e40 : c = 40
        · have f0 : (c == 0) = false := by simp; omega
          have f13 : (c == 13) = false := by simp; omega
          have f10 : (c == 10) = false := by simp; omega
          have f12 : (c == 12) = false := by simp; omega
          have f92 : (c == 92) = false := by simp; omega
          have fq : (c == (qb.toNat : Int)) = false := by simp; omega
          have f40 : (c == 40) = true := by simp; omega
          have HE : Hid (qk a (qb.toNat : Int) (lstC (d1 ++ pe)) c r = 0) := Lib.hid (by unfold qk; rw [if_neg (by omega), if_neg (by omega), if_pos (by omega)])
          clear HQQ
          go_wp2
          go_meet
          exact ⟨by rw [HE.out], Kp.refl _ _⟩
        by_cases e41 : c = 41
        · have f0 : (c == 0) = false := by simp; omega
          have f13 : (c == 13) = false := by simp; omega
          have f10 : (c == 10) = false := by simp; omega
          have f12 : (c == 12) = false := by simp; omega
          have f92 : (c == 92) = false := by simp; omega
          have fq : (c == (qb.toNat : Int)) = false := by simp; omega
          have f40 : (c == 40) = false := by simp; omega
          have f41 : (c == 41) = true := by simp; omega
          have HE : Hid (qk a (qb.toNat : Int) (lstC (d1 ++ pe)) c r = 0) := Lib.hid (by unfold qk; rw [if_neg (by omega), if_neg (by omega), if_pos (by omega)])
          clear HQQ
          go_wp2
          go_meet
          exact ⟨by rw [HE.out], Kp.refl _ _⟩
        by_cases e32 : c = 32
        · have f0 : (c == 0) = false := by simp; omega
          have f13 : (c == 13) = false := by simp; omega
          have f10 : (c == 10) = false := by simp; omega
          have f12 : (c == 12) = false := by simp; omega
          have f92 : (c == 92) = false := by simp; omega
          have fq : (c == (qb.toNat : Int)) = false := by simp; omega
          have f40 : (c == 40) = false := by simp; omega
          have f41 : (c == 41) = false := by simp; omega
          have f32 : (c == 32) = true := by simp; omega
          have HE : Hid (qk a (qb.toNat : Int) (lstC (d1 ++ pe)) c r = 0) := Lib.hid (by unfold qk; rw [if_neg (by omega), if_neg (by omega), if_pos (by omega)])
          clear HQQ
          go_wp2
          go_meet
          exact ⟨by rw [HE.out], Kp.refl _ _⟩
        by_cases e9 : c = 9
        · have f0 : (c == 0) = false := by simp; omega
          have f13 : (c == 13) = false := by simp; omega
          have f10 : (c == 10) = false := by simp; omega
          have f12 : (c == 12) = false := by simp; omega
          have f92 : (c == 92) = false := by simp; omega
          have fq : (c == (qb.toNat : Int)) = false := by simp; omega
          have f40 : (c == 40) = false := by simp; omega
          have f41 : (c == 41) = false := by simp; omega
          have f32 : (c == 32) = false := by simp; omega
          have f9 : (c == 9) = true := by simp; omega
          have HE : Hid (qk a (qb.toNat : Int) (lstC (d1 ++ pe)) c r = 0) := Lib.hid (by unfold qk; rw [if_neg (by omega), if_neg (by omega), if_pos (by omega)])
          clear HQQ
          go_wp2
          go_meet
          exact ⟨by rw [HE.out], Kp.refl _ _⟩
        by_cases e34 : c = 34
        · have f0 : (c == 0) = false := by simp; omega
          have f13 : (c == 13) = false := by simp; omega
          have f10 : (c == 10) = false := by simp; omega
          have f12 : (c == 12) = false := by simp; omega
          have f92 : (c == 92) = false := by simp; omega
          have fq : (c == (qb.toNat : Int)) = false := by simp; omega
          have f40 : (c == 40) = false := by simp; omega
          have f41 : (c == 41) = false := by simp; omega
          have f32 : (c == 32) = false := by simp; omega
          have f9 : (c == 9) = false := by simp; omega
          have f34 : (c == 34) = true := by simp; omega
          have HE : Hid (qk a (qb.toNat : Int) (lstC (d1 ++ pe)) c r = 0) := Lib.hid (by unfold qk; rw [if_neg (by omega), if_neg (by omega), if_pos (by omega)])
          clear HQQ
          go_wp2
          go_meet
          exact ⟨by rw [HE.out], Kp.refl _ _⟩
        by_cases e39 : c = 39
        · have f0 : (c == 0) = false := by simp; omega
          have f13 : (c == 13) = false := by simp; omega
          have f10 : (c == 10) = false := by simp; omega
          have f12 : (c == 12) = false := by simp; omega
          have f92 : (c == 92) = false := by simp; omega
          have fq : (c == (qb.toNat : Int)) = false := by simp; omega
          have f40 : (c == 40) = false := by simp; omega
          have f41 : (c == 41) = false := by simp; omega
          have f32 : (c == 32) = false := by simp; omega
          have f9 : (c == 9) = false := by simp; omega
          have f34 : (c == 34) = false := by simp; omega
          have f39 : (c == 39) = true := by simp; omega
          have HE : Hid (qk a (qb.toNat : Int) (lstC (d1 ++ pe)) c r = 0) := Lib.hid (by unfold qk; rw [if_neg (by omega), if_neg (by omega), if_pos (by omega)])
          clear HQQ
          go_wp2
          go_meet
          exact ⟨by rw [HE.out], Kp.refl _ _⟩
        by_cases e47 : c = 47
        · have f0 : (c == 0) = false := by simp; omega
          have f13 : (c == 13) = false := by simp; omega
          have f10 : (c == 10) = false := by simp; omega
          have f12 : (c == 12) = false := by simp; omega
          have f92 : (c == 92) = false := by simp; omega
          have fq : (c == (qb.toNat : Int)) = false := by simp; omega
          have f40 : (c == 40) = false := by simp; omega
          have f41 : (c == 41) = false := by simp; omega
          have f32 : (c == 32) = false := by simp; omega
          have f9 : (c == 9) = false := by simp; omega
          have f34 : (c == 34) = false := by simp; omega
          have f39 : (c == 39) = false := by simp; omega
          have f47 : (c == 47) = true := by simp; omega
          have HE : Hid (qk a (qb.toNat : Int) (lstC (d1 ++ pe)) c r = if lstC (d1 ++ pe) = 60 ∧ styl (encs r) = true then 1 else 0) := Lib.hid (by unfold qk; rw [if_neg (by omega), if_neg (by omega), if_neg (by omega), if_pos e47])
          have HSR : Hid (∀ h5 : 5 ≤ (encs r).length, (s.extract (I + 1) (I + 6)).data.toList = (encs r).take 5) := Lib.hid (by
            intro h5
            have e0 : s.data.toList = (encs (d1 ++ pe) ++ [47]) ++ ((encs r).take 5 ++ (encs r).drop 5) := by
              rw [HS.out, ← HI.out.eq, ← List.append_assoc, encs_app, encs_cons, e47, List.take_append_drop]
              rw [show encd 47 = [47] from rfl]; simp
            have e1 : (encs (d1 ++ pe)).length = I := HIQ.out
            exact ext_mid s _ _ _ e0 (I + 1) (I + 6) (by rw [List.length_append, e1]; rfl) (by rw [List.length_append, e1, List.length_take, Nat.min_eq_left h5]; rfl))
          have hwd1 : wd = 1 := by rw [← HWD.out, e47]; rfl
          have htot := HTOT.out
          clear HQQ
          by_cases hI0 : I = 0
          · have hdn : d1 ++ pe = [] := by
              have h1 : (encs (d1 ++ pe)).length = I := HIQ.out
              have h2 := encs_len (d1 ++ pe)
              exact List.eq_nil_of_length_eq_zero (by omega)
            have HE2 : Hid (qk a (qb.toNat : Int) (lstC (d1 ++ pe)) c r = 0) := Lib.hid (by rw [HE.out, hdn, if_neg (by simp [lstC])])
            have g1 : ¬ (1 : Int) ≤ (I : Int) := by omega
            clear hdn hI0 e47 htot hwd1
            go_wp2_with (go_at_call 99; with_reducible refine (Has_0 wD).mono ?_; rintro e w9 ⟨rfl, hw9⟩; obtain rfl := hw9.symm)
            go_meet
            exact ⟨by rw [HE2.out], Kp.refl _ _⟩
          obtain ⟨dl, x, hdl⟩ : ∃ dl x, d1 ++ pe = dl ++ [x] := by
            rcases List.eq_nil_or_concat (d1 ++ pe) with h1 | ⟨dl, x, h1⟩
            · exfalso
              have h2 : (encs (d1 ++ pe)).length = I := HIQ.out
              rw [h1] at h2
              simp [encs_nil] at h2; omega
            · exact ⟨dl, x, by simpa using h1⟩
          have hxs : Scal x := HC.out x (by rw [← HI.out.eq, ← List.append_assoc, hdl]; simp)
          obtain ⟨b, hb1, hb2⟩ := last_byte dl x hxs
          obtain ⟨J, hJ⟩ : ∃ J, I = J + 1 := ⟨I - 1, by omega⟩
          have hbJ : s.data.toList[J]? = some b := by
            have h2 : (encs (d1 ++ pe)).length = I := HIQ.out
            have e0 : s.data.toList = encs (d1 ++ pe) ++ encs (c :: r) := by rw [HS.out, ← HI.out.eq, ← List.append_assoc, encs_app]
            rw [e0, List.getElem?_append_left (by omega), hdl, ← hb1, List.getLast?_eq_getElem?, ← hdl, h2, hJ]
            rfl
          have hJs : J < s.size := by omega
          have hb3 : s[J]'hJs = b := by
            have := Lib.data_getElem? s J hJs
            rw [hbJ] at this
            simpa using this.symm
          have hlst : lstC (d1 ++ pe) = x := by rw [hdl, lstC_snoc]
          replace HE : Hid (qk a (qb.toNat : Int) (lstC (d1 ++ pe)) c r = if x = 60 ∧ styl (encs r) = true then 1 else 0) := Lib.hid (by rw [HE.out, hlst])
          have g1 : (1 : Int) ≤ (I : Int) := by omega
          have g0 : (I : Int) - 1 = (J : Int) := by omega
          have gJ : (J : Int) < (s.size : Int) := by omega
          by_cases h60 : (b.toNat : Int) = 60
          · have g2 : ((b.toNat : Int) == 60) = true := by simp; omega
            have hx60 := hb2.1 h60
            by_cases h5 : 5 ≤ (encs r).length
            · have g3 : (I : Int) + 6 ≤ (s.size : Int) := by omega
              obtain ⟨sE, hsE⟩ : ∃ z, s.extract (I + 1) (I + 6) = z := ⟨_, rfl⟩
              have hsE2 : sE.data.toList = (encs r).take 5 := by rw [← hsE]; exact HSR.out h5
              have hsE3 : sE.size = 5 := by
                have h1 : sE.data.toList.length = ((encs r).take 5).length := congrArg List.length hsE2
                have h2 : sE.data.toList.length = sE.size := by simp
                rw [List.length_take] at h1; omega
              have HEF := Lib.hid (EqualFold_sty sE hsE3 wD HPD.out.tb.fold HPD.out.tb.u8)
              rw [hsE2, styl_take _ 5 (Nat.le_refl _)] at HEF
              have HX60 := Lib.hid hx60
              clear hJ hbJ hb1 hb2 hdl hxs hlst h60 hx60 h5 hsE2 hsE3 e47 hI0 htot hwd1
              cases hst : styl (encs r)
              · rw [hst] at HEF
                have HE2 : Hid (qk a (qb.toNat : Int) (lstC (d1 ++ pe)) c r = 0) := Lib.hid (by rw [HE.out, hst, if_neg (by simp)])
                clear hst
                go_wp2_with (first | (go_at_call 99; with_reducible refine (Has_0 wD).mono ?_; rintro e w9 ⟨rfl, hw9⟩; obtain rfl := hw9.symm) | (go_at_call 100; refine HEF.out.mono ?_; rintro e wE ⟨rfl, hkE⟩))
                go_meet
                exact ⟨by rw [HE2.out], hkE⟩
              · rw [hst] at HEF
                have HE2 : Hid (qk a (qb.toNat : Int) (lstC (d1 ++ pe)) c r = 1) := Lib.hid (by rw [HE.out, hst, if_pos ⟨HX60.out, rfl⟩])
                clear hst
                go_wp2_with (first | (go_at_call 99; with_reducible refine (Has_0 wD).mono ?_; rintro e w9 ⟨rfl, hw9⟩; obtain rfl := hw9.symm) | (go_at_call 100; refine HEF.out.mono ?_; rintro e wE ⟨rfl, hkE⟩))
                go_meet
                exact ⟨by rw [HE2.out], hkE⟩
            · have g3 : ¬ (I : Int) + 6 ≤ (s.size : Int) := by omega
              have HE2 : Hid (qk a (qb.toNat : Int) (lstC (d1 ++ pe)) c r = 0) := Lib.hid (by rw [HE.out, styl_short _ (by omega), if_neg (by simp)])
              clear hJ hbJ hb1 hb2 hdl hxs hlst h60 hx60 h5 e47 hI0 htot hwd1
              go_wp2_with (go_at_call 99; with_reducible refine (Has_0 wD).mono ?_; rintro e w9 ⟨rfl, hw9⟩; obtain rfl := hw9.symm)
              go_meet
              exact ⟨by rw [HE2.out], Kp.refl _ _⟩
          · have g2 : ((b.toNat : Int) == 60) = false := by simp; omega
            have HE2 : Hid (qk a (qb.toNat : Int) (lstC (d1 ++ pe)) c r = 0) := Lib.hid (by rw [HE.out, if_neg (fun h => h60 (hb2.2 h.1))])
            clear hJ hbJ hb1 hb2 hdl hxs hlst h60 e47 hI0 htot hwd1
            go_wp2_with (go_at_call 99; with_reducible refine (Has_0 wD).mono ?_; rintro e w9 ⟨rfl, hw9⟩; obtain rfl := hw9.symm)
            go_meet
            exact ⟨by rw [HE2.out], Kp.refl _ _⟩
        have f0 : (c == 0) = false := by simp; omega
        have f13 : (c == 13) = false := by simp; omega
        have f10 : (c == 10) = false := by simp; omega
        have f12 : (c == 12) = false := by simp; omega
        have f92 : (c == 92) = false := by simp; omega
        have fq : (c == (qb.toNat : Int)) = false := by simp; omega
        have f40 : (c == 40) = false := by simp; omega
        have f41 : (c == 41) = false := by simp; omega
        have f32 : (c == 32) = false := by simp; omega
        have f9 : (c == 9) = false := by simp; omega
        have f34 : (c == 34) = false := by simp; omega
        have f39 : (c == 39) = false := by simp; omega
        have f47 : (c == 47) = false := by simp; omega
        have HE : Hid (qk a (qb.toNat : Int) (lstC (d1 ++ pe)) c r = if (a && decide (128 ≤ c) || decide (c = 65279)) = true then 2 else 0) := Lib.hid (by unfold qk; rw [if_neg (by omega), if_neg (by omega), if_neg (by omega), if_neg (by omega)])
        clear HQQ
        by_cases e65 : c = 65279
        · have g1 : (c == 65279) = true := by simp; omega
          have HE2 : Hid (qk a (qb.toNat : Int) (lstC (d1 ++ pe)) c r = 2) := Lib.hid (by rw [HE.out, if_pos (by simp [e65])])
          have g2 : (128 : Int) ≤ c := by omega
          clear e65
          cases a
          · go_wp2
            go_meet
            exact ⟨by rw [HE2.out], Kp.refl _ _⟩
          · go_wp2
            go_meet
            exact ⟨by rw [HE2.out], Kp.refl _ _⟩
        have g1 : (c == 65279) = false := by simp; omega
        cases a
        · have HE2 : Hid (qk false (qb.toNat : Int) (lstC (d1 ++ pe)) c r = 0) := Lib.hid (by rw [HE.out, if_neg (by simp [e65])])
          clear e65
          go_wp2
          go_meet
          exact ⟨by rw [HE2.out], Kp.refl _ _⟩
        · by_cases g2 : (128 : Int) ≤ c
          · have HE2 : Hid (qk true (qb.toNat : Int) (lstC (d1 ++ pe)) c r = 2) := Lib.hid (by rw [HE.out, if_pos (by simp [g2])])
            clear e65
            go_wp2
            go_meet
            exact ⟨by rw [HE2.out], Kp.refl _ _⟩
          · have HE2 : Hid (qk true (qb.toNat : Int) (lstC (d1 ++ pe)) c r = 0) := Lib.hid (by rw [HE.out, if_neg (by simp [g2, e65])])
            clear e65
            go_wp2
            go_meet
            exact ⟨by rw [HE2.out], Kp.refl _ _⟩
      case rest =>
      obtain ⟨rfl, hkx⟩ := hcut
      have hPx := HPD.out.kp hkx
      have HPX := Lib.hid hPx
      have HKX := Lib.hid (HKD.out.trans hkx)
      obtain ⟨z3, z5, z6, z7, z9, z15, zf⟩ := hPx.pr.f
      obtain ⟨k, hk⟩ : ∃ k, qk a (qb.toNat : Int) (lstC (d1 ++ pe)) c r = k := ⟨_, rfl⟩
      have hkv := qk_vals a (qb.toNat : Int) (lstC (d1 ++ pe)) c r HQQ.out
      rw [hk] at hkv ⊢
      have HKE := Lib.hid hk
      have HKV := Lib.hid hkv
      clear hkx hPx hk y3 y5 y6 y7 y9 y15 yf
      by_cases hk0 : k = 0
      · subst hk0
        have hN : QtS F G g m a (.slice A n cp) css cs (qb.toNat : Int) w (.int .i64 ((I : Int) + (wd : Int))) (.int .i64 (R : Nat)) wc d1 (pe ++ [c]) r (.slice A3 n3 cp3) acc := by
          have := QtS.plain HI.out HKE.out HKX.out (.int .i64 ((I : Int) + (wd : Int))) (by
            have h1 : (encs (d1 ++ pe)).length = I := HIQ.out
            have h2 : (encd c).length = wd := HWD.out
            rw [h1, h2]; simp)
          rw [HRQ.out] at this
          exact this
        have HN := Lib.hid hN
        clear hN hkv HKV
        have hw1 := (encd_len c).1
        rw [HWD.out] at hw1
        have htot := HTOT.out
        have hms : s.size - (intOf (.int .i64 ((I : Int) + (wd : Int)))).toNat < s.size - (intOf (.int .i64 (I : Int))).toNat := by simp [intOf]; omega
        have HMS := Lib.hid hms
        clear hms hw1
        go_wp2
        first
          | exact ⟨⟨_, _, _, _, _, HN.out⟩, HMS.out⟩
          | (refine ⟨?_, HMS.out⟩; (repeat apply Exists.intro); exact ⟨⟨_, _, _, _, _, HN.out⟩, rfl⟩)
      have k1 : (k == 0) = false := by simpa using hk0
      have htot := HTOT.out
      have hRI := HRI.out
      clear hkv hk0
      have hRIle : (R : Int) ≤ (I : Int) := by omega
      have hIle : (I : Int) ≤ (s.size : Int) := by omega
      have hd1 : (encs d1).length = R := HRQ.out
      have hln := HI.out.ln
      have hpsz : sP.size = (encs pe).length := by
        have h1 : sP.data.toList.length = (encs pe).length := congrArg List.length HSP.out
        have h2 : sP.data.toList.length = sP.size := by simp
        omega
      have hbt : (css ++ encd (qb.toNat : Int) ++ acc).length + sP.size ≤ 140737488355328 := by
        rw [List.length_append, List.length_append, HBQ.out, List.length_singleton]
        omega
      have hbt2 : (css ++ encd (qb.toNat : Int) ++ (acc ++ encs pe)).length + 100 ≤ 140737488355328 := by
        rw [List.length_append, List.length_append, HBQ.out, List.length_singleton, List.length_append]
        omega
      have hpR : R < I ↔ pe ≠ [] := by
        have := encs_len pe
        constructor
        · intro h1 h2; subst h2; simp [encs_nil] at hRI; omega
        · intro h1; have := List.length_pos_iff.2 h1; omega
      have HPR := Lib.hid hpR
      have HBT2 := Lib.hid hbt2
      have hms : s.size - (intOf (.int .i64 ((I : Int) + (wd : Int)))).toNat < s.size - (intOf (.int .i64 (I : Int))).toNat := by
        have hw1 := (encd_len c).1
        rw [HWD.out] at hw1
        simp [intOf]; omega
      have HMS := Lib.hid hms
      clear hpR hbt2 hd1 hln hpsz hRI htot hms
      by_cases hp : R < I
      · have g1 : (R : Int) < (I : Int) := by omega
        have hpd := HPX.out.pr.below ((Kp.refl _ wc).drew)
        have HP := Lib.hid hpd
        obtain ⟨x15, xf⟩ : (wc.drew).cell? ⟨g, 15, none⟩ = some (.slice A3 n3 cp3) ∧ (wc.drew).frozen? ⟨g, 15, none⟩ = false := ⟨z15, zf⟩
        clear hpd hp
        go_upto_region 45 with fail
        go_region_law ((refine step_app_str (.tmp 190) (.tmp 194) (by rfl) (by rfl) G _ (css ++ encd (qb.toNat : Int) ++ acc) (by rfl) HP.out.own sP (by rfl) hbt HP.out.ge ?_; intro v' w1 hA; obtain ⟨A', n', cp', rfl⟩ := hA.form; obtain ⟨c15, d15⟩ := HP.out.at1 hA))
        obtain ⟨P5, S5⟩ := HP.out.app hA
        have hW5 : StA F G g m a (.slice A3 n3 cp3) wc (css ++ encd (qb.toNat : Int) ++ (acc ++ encs pe)) (w1.setCell ⟨g, 15, none⟩ (.slice A' n' cp')) (.slice A' n' cp') := by
          have hst : Stp g (.slice A3 n3 cp3) (.slice A' n' cp') wc (w1.setCell ⟨g, 15, none⟩ (.slice A' n' cp')) := Stp.pre ((Kp.refl _ wc).drew) S5
          refine ⟨HPX.out.step ?_ hst, hst⟩
          have e : css ++ encd (qb.toNat : Int) ++ (acc ++ encs pe) = css ++ encd (qb.toNat : Int) ++ acc ++ sP.data.toList := by rw [HSP.out]; simp
          rw [e]; exact P5
        have HS2 := Lib.hid hW5
        clear P5 S5 hW5 z3 z5 z6 z7 z9 z15 zf x15 xf c15 d15 hA
        generalize w1.setCell ⟨g, 15, none⟩ (.slice A' n' cp') = wc2 at *
        generalize Value.slice A' n' cp' = vx at *
        have HEC := Lib.hid (Escape_any F G g m a vx _ k c sI (encs r) false _ HS2.out.pn HCC.out HKV.out HBT2.out HSI.out)
        obtain ⟨x3, x5, x6, x7, x9, x15, xf⟩ := HS2.out.pn.pr.f
        go_wp2_with (go_at_call 101; with_reducible refine HEC.out.mono ?_; rintro e wE ⟨rfl, hwE⟩)
        obtain ⟨vE, hpE, hsE⟩ := hwE
        have hN : QtS F G g m a (.slice A n cp) css cs (qb.toNat : Int) w (.int .i64 ((I : Int) + (wd : Int))) (.int .i64 ((I : Int) + (wd : Int))) wE (d1 ++ (pe ++ [c])) [] r vE (acc ++ encs pe ++ escP k c (encs r) false) := by
          have h1 : (encs (d1 ++ pe)).length = I := HIQ.out
          have h2 : (encd c).length = wd := HWD.out
          have e9 : (Value.int .i64 ((I : Int) + (wd : Int))) = .int .i64 (((encs (d1 ++ pe)).length + (encd c).length : Nat) : Int) := by rw [h1, h2]; simp
          have := QtS.esc HI.out HCC.out (by rw [HKE.out]; exact hpE) (Stp.pre HKX.out (HS2.out.st.trans hsE)) _ _ e9 e9
          rw [HKE.out] at this
          exact this
        have HN := Lib.hid hN
        clear hN hpE hsE HEC x3 x5 x6 x7 x9 x15 xf
        try dsimp only
        go_wp2
        first
          | exact ⟨⟨_, _, _, _, _, HN.out⟩, HMS.out⟩
          | (refine ⟨?_, HMS.out⟩; (repeat apply Exists.intro); exact ⟨⟨_, _, _, _, _, HN.out⟩, rfl⟩)
      · have g1 : ¬ (R : Int) < (I : Int) := by omega
        have hpe0 : pe = [] := by
          have h1 := HPR.out
          by_cases e : pe = []
          · exact e
          · exact absurd (h1.2 e) hp
        obtain ⟨vx, hvx⟩ : ∃ z, z = Value.slice A3 n3 cp3 := ⟨_, rfl⟩
        have HS2 : Hid (StA F G g m a (.slice A3 n3 cp3) wc (css ++ encd (qb.toNat : Int) ++ (acc ++ encs pe)) wc vx) := Lib.hid (by
          rw [hpe0, encs_nil, List.append_nil, hvx]
          exact ⟨HPX.out, Stp.refl _ _ _⟩)
        clear hpe0 hp z3 z5 z6 z7 z9 z15 zf hvx
        have HEC := Lib.hid (Escape_any F G g m a vx _ k c sI (encs r) false _ HS2.out.pn HCC.out HKV.out HBT2.out HSI.out)
        obtain ⟨x3, x5, x6, x7, x9, x15, xf⟩ := HS2.out.pn.pr.f
        go_wp2_with (go_at_call 101; with_reducible refine HEC.out.mono ?_; rintro e wE ⟨rfl, hwE⟩)
        obtain ⟨vE, hpE, hsE⟩ := hwE
        have hN : QtS F G g m a (.slice A n cp) css cs (qb.toNat : Int) w (.int .i64 ((I : Int) + (wd : Int))) (.int .i64 ((I : Int) + (wd : Int))) wE (d1 ++ (pe ++ [c])) [] r vE (acc ++ encs pe ++ escP k c (encs r) false) := by
          have h1 : (encs (d1 ++ pe)).length = I := HIQ.out
          have h2 : (encd c).length = wd := HWD.out
          have e9 : (Value.int .i64 ((I : Int) + (wd : Int))) = .int .i64 (((encs (d1 ++ pe)).length + (encd c).length : Nat) : Int) := by rw [h1, h2]; simp
          have := QtS.esc HI.out HCC.out (by rw [HKE.out]; exact hpE) (Stp.pre HKX.out (HS2.out.st.trans hsE)) _ _ e9 e9
          rw [HKE.out] at this
          exact this
        have HN := Lib.hid hN
        clear hN hpE hsE HEC x3 x5 x6 x7 x9 x15 xf
        try dsimp only
        go_wp2
        first
          | exact ⟨⟨_, _, _, _, _, HN.out⟩, HMS.out⟩
          | (refine ⟨?_, HMS.out⟩; (repeat apply Exists.intro); exact ⟨⟨_, _, _, _, _, HN.out⟩, rfl⟩)
theorem quot_sum (F : Go.Stop.Interp) : QuotC F := by
  intro G g m a v css w s cs h hc hs hb
  have HBQ := Lib.hid (bestQuote_any s cs w hc hs (by omega))
  have HC := Lib.hid hc
  have HS := Lib.hid hs
  have HB := Lib.hid hb
  have H := Lib.hid h
  clear hc hs hb h
  rcases bq_cases cs with e | e
  all_goals
    have HE := Lib.hid e
    rw [e] at HBQ
    clear e
    go_enter Tryz.func76, Tryz.ntmps76
    go_wp2_with (go_at_call 102; with_reducible refine HBQ.out.mono ?_; rintro e w2 ⟨rfl, hk⟩)
    have HK := Lib.hid hk
    clear hk
  · have hQ := Quote_any F G g m a v css s cs 39 (.inl rfl) w2 (H.out.kp HK.out) HC.out HS.out HB.out
    rw [show (((39 : UInt8).toNat : Nat) : Int) = 39 from rfl] at hQ
    have HQ := Lib.hid hQ
    clear hQ
    go_wp2_with (go_at_call 74; with_reducible refine HQ.out.mono ?_; rintro e w3 ⟨rfl, hw⟩)
    obtain ⟨v3, hp3, hs3⟩ := hw
    have HR : Hid (Wr F G g m a v w (css ++ quotP a cs) w3) := Lib.hid ⟨v3, by unfold quotP; rw [HE.out]; simpa using hp3, Stp.pre HK.out hs3⟩
    clear hp3 hs3
    go_wp2
    go_end0
    exact ⟨rfl, HR.out⟩
  · have hQ := Quote_any F G g m a v css s cs 34 (.inr rfl) w2 (H.out.kp HK.out) HC.out HS.out HB.out
    rw [show (((34 : UInt8).toNat : Nat) : Int) = 34 from rfl] at hQ
    have HQ := Lib.hid hQ
    clear hQ
    go_wp2_with (go_at_call 74; with_reducible refine HQ.out.mono ?_; rintro e w3 ⟨rfl, hw⟩)
    obtain ⟨v3, hp3, hs3⟩ := hw
    have HR : Hid (Wr F G g m a v w (css ++ quotP a cs) w3) := Lib.hid ⟨v3, by unfold quotP; rw [HE.out]; simpa using hp3, Stp.pre HK.out hs3⟩
    clear hp3 hs3
    go_wp2
    go_end0
    exact ⟨rfl, HR.out⟩
end Go.Proofs.YtkaejhdncohgpaaGreatFmt
