/- Walk: printRule at a declaration. -/
import Derived.Test.YtkaejhdncohgpaaGreatFmtCJ
namespace Go.Proofs.YtkaejhdncohgpaaGreatFmt
set_option linter.all false
open Go.RowKit Go.Lib
set_option maxRecDepth 100000
set_option maxHeartbeats 20000000
set_option linter.unusedSimpArgs false

theorem rule_decl (F : Go.Stop.Interp) (uq : Bool) (G g : Nat) (m a : Bool) (v : Value) (css : List UInt8) (R : Nat) (s : ByteArray) (cs : List Int) (sl : Value) (l : List TD) (x2 x3 x4 : Value) (imp : Bool) (w : World) (h : Pn F G w g m a v css) (hRG : R < G) (hR : w.heap[R]? = some (.cells #[.string s, sl, x2, x3, x4, .bool imp] 73))
    (hc : ∀ c ∈ cs, Scal c) (hs : s.data.toList = encs cs) (hr : RowAt w (· < G) sl l) (hok : TsOk uq l) (hT : TokC F uq G l) (hn : (!m && true) = false ∨ NoCm l) (hb : css.length + 8 * s.size + costL l + 2000 ≤ 140737488355328) :
    Calls Tryz.prog 51 #[.pointer (some ⟨g, 0, none⟩), .agg #[.iface 65 (.pointer (some ⟨R, 0, none⟩)), .int .i32 0], .int .i32 0, .bool false] w fun e w' => e = .returned (.tuple #[]) ∧ Wr F G g m a v w (css ++ declT m a imp cs l) w' := by
  have hge := h.pr.ge
  have hss : s.size = (encs cs).length := by rw [← hs]; simp
  have hi1 := identP_len a (decide (l ≠ [])) (iniE 0 cs) cs hc
  have hi2 := identP_len a false (iniE 0 cs) cs hc
  have hro := rowT_len a uq _ l (firstW l) (Nat.le_refl _) hok
  have hll := len_cost l
  have h47 : l.length ≤ 140737488355328 := by omega
  generalize hos : (.cells #[.string s, sl, x2, x3, x4, .bool imp] 73 : Obj) = o at hR
  have S0 : Hid (StR F G g m a v (w.alloc (.cells #[.iface 65 (.pointer (some ⟨R, 0, none⟩)), .int .i32 0] 85)) R o sl l css (w.alloc (.cells #[.iface 65 (.pointer (some ⟨R, 0, none⟩)), .int .i32 0] 85)) v) := by
    have hk0 : Kp (fun _ => False) w (w.alloc (.cells #[.iface 65 (.pointer (some ⟨R, 0, none⟩)), .int .i32 0] 85)) := (Kp.refl _ w).alloc _
    refine Lib.hid ⟨⟨h.kp hk0, Stp.refl _ _ _⟩, ?_, hr.kp hk0 (fun k hk => by omega) (fun _ h => h.elim), hRG⟩
    rw [hk0.block R (by omega) (fun h => h)]
    exact hR
  subst hos
  have hk0 : Hid (Kp (fun _ => False) w (w.alloc (.cells #[.iface 65 (.pointer (some ⟨R, 0, none⟩)), .int .i32 0] 85))) := Lib.hid ((Kp.refl _ w).alloc _)
  have HS := Lib.hid hs
  have HC := Lib.hid hc
  have HOK := Lib.hid hok
  have HT := Lib.hid hT
  have HI1 := Lib.hid hi1
  have HI2 := Lib.hid hi2
  have HRO := Lib.hid hro
  have HB := Lib.hid hb
  have HSS := Lib.hid hss
  clear h hR hr hs hc hok hT hi1 hi2 hro hss hb
  obtain ⟨A, cap, rfl, -⟩ := S0.out.row.len
  have HN := Lib.hid hn
  clear hn
  have c0 : (w.alloc (.cells #[.iface 65 (.pointer (some ⟨R, 0, none⟩)), .int .i32 0] 85)).cell? ⟨w.heap.size, 0, none⟩ = some (.iface 65 (.pointer (some ⟨R, 0, none⟩))) := by rw [cell?_eq_of (heap_alloc_new w _)]; rfl
  generalize hw1 : w.alloc (.cells #[.iface 65 (.pointer (some ⟨R, 0, none⟩)), .int .i32 0] 85) = w1 at *
  obtain ⟨y3, y5, y6, y7, y9, y15, yf⟩ := S0.out.st.pn.pr.f
  have L0 := S0.out.st.pn.pr.lt
  obtain ⟨r0, r1, r5⟩ := cells6 S0.out.blk
  obtain ⟨lw, hlw⟩ : ∃ x, lastW (firstW l) l = x := ⟨_, rfl⟩
  have HLW := Lib.hid hlw
  clear hlw
  cases m
  case true =>
    cases imp
    case false => as_aux_lemma =>
      go_enter Tryz.func51, Tryz.ntmps51
      go_upto_region 1 with fail
      have B0 : Hid ((css).length + 8 * s.size + 100 ≤ 140737488355328) := Lib.hid (by have b0 := HB.out; have b1 := HI1.out; have b2 := HI2.out; have b3 := HRO.out; have b4 := HSS.out; simp only [List.length_append, List.length_cons, List.length_nil, ne_eq, decide_not] at b1 b2 b3 ⊢; first | omega | (simp_all <;> omega))
      go_wp2_with fail
      refine (Ident0_n false s cs S0.out.st.pn HC.out HS.out B0.out).mono ?_
      rintro e w9 ⟨rfl, hw9⟩
      clear y3 y5 y6 y7 y9 y15 yf r0 r1 r5
      obtain ⟨v1, S1⟩ := S0.out.go hw9
      replace S1 := Lib.hid S1
      clear hw9
      obtain ⟨y3, y5, y6, y7, y9, y15, yf⟩ := S1.out.st.pn.pr.f
      have L1 := S1.out.st.pn.pr.lt
      obtain ⟨r0, r1, r5⟩ := cells6 S1.out.blk
      have B1 : Hid ((css ++ identP a false (iniE 0 cs) cs).length + 1 ≤ 140737488355328) := Lib.hid (by have b0 := HB.out; have b1 := HI1.out; have b2 := HI2.out; have b3 := HRO.out; have b4 := HSS.out; simp only [List.length_append, List.length_cons, List.length_nil, ne_eq, decide_not] at b1 b2 b3 ⊢; first | omega | (simp_all <;> omega))
      go_wp2_with fail
      refine (Print_1 S1.out.st.pn 58 B1.out).mono ?_
      rintro e w9 ⟨rfl, hw9⟩
      clear y3 y5 y6 y7 y9 y15 yf r0 r1 r5
      obtain ⟨v2, S2⟩ := S1.out.go hw9
      replace S2 := Lib.hid S2
      clear hw9
      obtain ⟨y3, y5, y6, y7, y9, y15, yf⟩ := S2.out.st.pn.pr.f
      have L2 := S2.out.st.pn.pr.lt
      obtain ⟨r0, r1, r5⟩ := cells6 S2.out.blk
      have B2 : Hid ((css ++ identP a false (iniE 0 cs) cs ++ [58]).length + costL l + 1000 ≤ 140737488355328) := Lib.hid (by have b0 := HB.out; have b1 := HI1.out; have b2 := HI2.out; have b3 := HRO.out; have b4 := HSS.out; simp only [List.length_append, List.length_cons, List.length_nil, ne_eq, decide_not] at b1 b2 b3 ⊢; first | omega | (simp_all <;> omega))
      go_wp2_with fail
      refine (HT.out g true a _ _ _ 0 true _ S2.out.st.pn S2.out.row HOK.out HN.out B2.out).mono ?_
      rw [HLW.out]; rintro e w9 ⟨rfl, hw9⟩
      clear y3 y5 y6 y7 y9 y15 yf r0 r1 r5
      obtain ⟨v3, S3⟩ := S2.out.go hw9
      replace S3 := Lib.hid S3
      clear hw9
      obtain ⟨y3, y5, y6, y7, y9, y15, yf⟩ := S3.out.st.pn.pr.f
      have L3 := S3.out.st.pn.pr.lt
      obtain ⟨r0, r1, r5⟩ := cells6 S3.out.blk
      have B3 : Hid ((css ++ identP a false (iniE 0 cs) cs ++ [58] ++ rowT a (firstW l) l).length + 1 ≤ 140737488355328) := Lib.hid (by have b0 := HB.out; have b1 := HI1.out; have b2 := HI2.out; have b3 := HRO.out; have b4 := HSS.out; simp only [List.length_append, List.length_cons, List.length_nil, ne_eq, decide_not] at b1 b2 b3 ⊢; first | omega | (simp_all <;> omega))
      go_wp2_with fail
      refine (Print_1 S3.out.st.pn 59 B3.out).mono ?_
      rintro e w9 ⟨rfl, hw9⟩
      clear y3 y5 y6 y7 y9 y15 yf r0 r1 r5
      obtain ⟨v4, S4⟩ := S3.out.go hw9
      replace S4 := Lib.hid S4
      clear hw9
      obtain ⟨y3, y5, y6, y7, y9, y15, yf⟩ := S4.out.st.pn.pr.f
      have L4 := S4.out.st.pn.pr.lt
      obtain ⟨r0, r1, r5⟩ := cells6 S4.out.blk
      go_wp2
      go_end0
      refine ⟨rfl, ?_⟩
      have hz := S4.out.wr hk0.out
      have e1 := HLW.out
      simpa [declT, e1] using hz
    case true =>
      cases lw
      case false => as_aux_lemma =>
        go_enter Tryz.func51, Tryz.ntmps51
        go_upto_region 1 with fail
        have B0 : Hid ((css).length + 8 * s.size + 100 ≤ 140737488355328) := Lib.hid (by have b0 := HB.out; have b1 := HI1.out; have b2 := HI2.out; have b3 := HRO.out; have b4 := HSS.out; simp only [List.length_append, List.length_cons, List.length_nil, ne_eq, decide_not] at b1 b2 b3 ⊢; first | omega | (simp_all <;> omega))
        go_wp2_with fail
        refine (Ident0_n false s cs S0.out.st.pn HC.out HS.out B0.out).mono ?_
        rintro e w9 ⟨rfl, hw9⟩
        clear y3 y5 y6 y7 y9 y15 yf r0 r1 r5
        obtain ⟨v1, S1⟩ := S0.out.go hw9
        replace S1 := Lib.hid S1
        clear hw9
        obtain ⟨y3, y5, y6, y7, y9, y15, yf⟩ := S1.out.st.pn.pr.f
        have L1 := S1.out.st.pn.pr.lt
        obtain ⟨r0, r1, r5⟩ := cells6 S1.out.blk
        have B1 : Hid ((css ++ identP a false (iniE 0 cs) cs).length + 1 ≤ 140737488355328) := Lib.hid (by have b0 := HB.out; have b1 := HI1.out; have b2 := HI2.out; have b3 := HRO.out; have b4 := HSS.out; simp only [List.length_append, List.length_cons, List.length_nil, ne_eq, decide_not] at b1 b2 b3 ⊢; first | omega | (simp_all <;> omega))
        go_wp2_with fail
        refine (Print_1 S1.out.st.pn 58 B1.out).mono ?_
        rintro e w9 ⟨rfl, hw9⟩
        clear y3 y5 y6 y7 y9 y15 yf r0 r1 r5
        obtain ⟨v2, S2⟩ := S1.out.go hw9
        replace S2 := Lib.hid S2
        clear hw9
        obtain ⟨y3, y5, y6, y7, y9, y15, yf⟩ := S2.out.st.pn.pr.f
        have L2 := S2.out.st.pn.pr.lt
        obtain ⟨r0, r1, r5⟩ := cells6 S2.out.blk
        have B2 : Hid ((css ++ identP a false (iniE 0 cs) cs ++ [58]).length + costL l + 1000 ≤ 140737488355328) := Lib.hid (by have b0 := HB.out; have b1 := HI1.out; have b2 := HI2.out; have b3 := HRO.out; have b4 := HSS.out; simp only [List.length_append, List.length_cons, List.length_nil, ne_eq, decide_not] at b1 b2 b3 ⊢; first | omega | (simp_all <;> omega))
        go_wp2_with fail
        refine (HT.out g true a _ _ _ 0 true _ S2.out.st.pn S2.out.row HOK.out HN.out B2.out).mono ?_
        rw [HLW.out]; rintro e w9 ⟨rfl, hw9⟩
        clear y3 y5 y6 y7 y9 y15 yf r0 r1 r5
        obtain ⟨v3, S3⟩ := S2.out.go hw9
        replace S3 := Lib.hid S3
        clear hw9
        obtain ⟨y3, y5, y6, y7, y9, y15, yf⟩ := S3.out.st.pn.pr.f
        have L3 := S3.out.st.pn.pr.lt
        obtain ⟨r0, r1, r5⟩ := cells6 S3.out.blk
        have B3 : Hid ((css ++ identP a false (iniE 0 cs) cs ++ [58] ++ rowT a (firstW l) l).length + 10 ≤ 140737488355328) := Lib.hid (by have b0 := HB.out; have b1 := HI1.out; have b2 := HI2.out; have b3 := HRO.out; have b4 := HSS.out; simp only [List.length_append, List.length_cons, List.length_nil, ne_eq, decide_not] at b1 b2 b3 ⊢; first | omega | (simp_all <;> omega))
        go_wp2_with fail
        refine (Print_n S3.out.st.pn ⟨#[33, 105, 109, 112, 111, 114, 116, 97, 110, 116]⟩ B3.out).mono ?_
        rintro e w9 ⟨rfl, hw9⟩
        clear y3 y5 y6 y7 y9 y15 yf r0 r1 r5
        obtain ⟨v4, S4⟩ := S3.out.go hw9
        replace S4 := Lib.hid S4
        clear hw9
        obtain ⟨y3, y5, y6, y7, y9, y15, yf⟩ := S4.out.st.pn.pr.f
        have L4 := S4.out.st.pn.pr.lt
        obtain ⟨r0, r1, r5⟩ := cells6 S4.out.blk
        have B4 : Hid ((css ++ identP a false (iniE 0 cs) cs ++ [58] ++ rowT a (firstW l) l ++ [33, 105, 109, 112, 111, 114, 116, 97, 110, 116]).length + 1 ≤ 140737488355328) := Lib.hid (by have b0 := HB.out; have b1 := HI1.out; have b2 := HI2.out; have b3 := HRO.out; have b4 := HSS.out; simp only [List.length_append, List.length_cons, List.length_nil, ne_eq, decide_not] at b1 b2 b3 ⊢; first | omega | (simp_all <;> omega))
        go_wp2_with fail
        refine (Print_1 S4.out.st.pn 59 B4.out).mono ?_
        rintro e w9 ⟨rfl, hw9⟩
        clear y3 y5 y6 y7 y9 y15 yf r0 r1 r5
        obtain ⟨v5, S5⟩ := S4.out.go hw9
        replace S5 := Lib.hid S5
        clear hw9
        obtain ⟨y3, y5, y6, y7, y9, y15, yf⟩ := S5.out.st.pn.pr.f
        have L5 := S5.out.st.pn.pr.lt
        obtain ⟨r0, r1, r5⟩ := cells6 S5.out.blk
        go_wp2
        go_end0
        refine ⟨rfl, ?_⟩
        have hz := S5.out.wr hk0.out
        have e1 := HLW.out
        simpa [declT, e1] using hz
      case true => as_aux_lemma =>
        go_enter Tryz.func51, Tryz.ntmps51
        go_upto_region 1 with fail
        have B0 : Hid ((css).length + 8 * s.size + 100 ≤ 140737488355328) := Lib.hid (by have b0 := HB.out; have b1 := HI1.out; have b2 := HI2.out; have b3 := HRO.out; have b4 := HSS.out; simp only [List.length_append, List.length_cons, List.length_nil, ne_eq, decide_not] at b1 b2 b3 ⊢; first | omega | (simp_all <;> omega))
        go_wp2_with fail
        refine (Ident0_n false s cs S0.out.st.pn HC.out HS.out B0.out).mono ?_
        rintro e w9 ⟨rfl, hw9⟩
        clear y3 y5 y6 y7 y9 y15 yf r0 r1 r5
        obtain ⟨v1, S1⟩ := S0.out.go hw9
        replace S1 := Lib.hid S1
        clear hw9
        obtain ⟨y3, y5, y6, y7, y9, y15, yf⟩ := S1.out.st.pn.pr.f
        have L1 := S1.out.st.pn.pr.lt
        obtain ⟨r0, r1, r5⟩ := cells6 S1.out.blk
        have B1 : Hid ((css ++ identP a false (iniE 0 cs) cs).length + 1 ≤ 140737488355328) := Lib.hid (by have b0 := HB.out; have b1 := HI1.out; have b2 := HI2.out; have b3 := HRO.out; have b4 := HSS.out; simp only [List.length_append, List.length_cons, List.length_nil, ne_eq, decide_not] at b1 b2 b3 ⊢; first | omega | (simp_all <;> omega))
        go_wp2_with fail
        refine (Print_1 S1.out.st.pn 58 B1.out).mono ?_
        rintro e w9 ⟨rfl, hw9⟩
        clear y3 y5 y6 y7 y9 y15 yf r0 r1 r5
        obtain ⟨v2, S2⟩ := S1.out.go hw9
        replace S2 := Lib.hid S2
        clear hw9
        obtain ⟨y3, y5, y6, y7, y9, y15, yf⟩ := S2.out.st.pn.pr.f
        have L2 := S2.out.st.pn.pr.lt
        obtain ⟨r0, r1, r5⟩ := cells6 S2.out.blk
        have B2 : Hid ((css ++ identP a false (iniE 0 cs) cs ++ [58]).length + costL l + 1000 ≤ 140737488355328) := Lib.hid (by have b0 := HB.out; have b1 := HI1.out; have b2 := HI2.out; have b3 := HRO.out; have b4 := HSS.out; simp only [List.length_append, List.length_cons, List.length_nil, ne_eq, decide_not] at b1 b2 b3 ⊢; first | omega | (simp_all <;> omega))
        go_wp2_with fail
        refine (HT.out g true a _ _ _ 0 true _ S2.out.st.pn S2.out.row HOK.out HN.out B2.out).mono ?_
        rw [HLW.out]; rintro e w9 ⟨rfl, hw9⟩
        clear y3 y5 y6 y7 y9 y15 yf r0 r1 r5
        obtain ⟨v3, S3⟩ := S2.out.go hw9
        replace S3 := Lib.hid S3
        clear hw9
        obtain ⟨y3, y5, y6, y7, y9, y15, yf⟩ := S3.out.st.pn.pr.f
        have L3 := S3.out.st.pn.pr.lt
        obtain ⟨r0, r1, r5⟩ := cells6 S3.out.blk
        have B3 : Hid ((css ++ identP a false (iniE 0 cs) cs ++ [58] ++ rowT a (firstW l) l).length + 10 ≤ 140737488355328) := Lib.hid (by have b0 := HB.out; have b1 := HI1.out; have b2 := HI2.out; have b3 := HRO.out; have b4 := HSS.out; simp only [List.length_append, List.length_cons, List.length_nil, ne_eq, decide_not] at b1 b2 b3 ⊢; first | omega | (simp_all <;> omega))
        go_wp2_with fail
        refine (Print_n S3.out.st.pn ⟨#[33, 105, 109, 112, 111, 114, 116, 97, 110, 116]⟩ B3.out).mono ?_
        rintro e w9 ⟨rfl, hw9⟩
        clear y3 y5 y6 y7 y9 y15 yf r0 r1 r5
        obtain ⟨v4, S4⟩ := S3.out.go hw9
        replace S4 := Lib.hid S4
        clear hw9
        obtain ⟨y3, y5, y6, y7, y9, y15, yf⟩ := S4.out.st.pn.pr.f
        have L4 := S4.out.st.pn.pr.lt
        obtain ⟨r0, r1, r5⟩ := cells6 S4.out.blk
        have B4 : Hid ((css ++ identP a false (iniE 0 cs) cs ++ [58] ++ rowT a (firstW l) l ++ [33, 105, 109, 112, 111, 114, 116, 97, 110, 116]).length + 1 ≤ 140737488355328) := Lib.hid (by have b0 := HB.out; have b1 := HI1.out; have b2 := HI2.out; have b3 := HRO.out; have b4 := HSS.out; simp only [List.length_append, List.length_cons, List.length_nil, ne_eq, decide_not] at b1 b2 b3 ⊢; first | omega | (simp_all <;> omega))
        go_wp2_with fail
        refine (Print_1 S4.out.st.pn 59 B4.out).mono ?_
        rintro e w9 ⟨rfl, hw9⟩
        clear y3 y5 y6 y7 y9 y15 yf r0 r1 r5
        obtain ⟨v5, S5⟩ := S4.out.go hw9
        replace S5 := Lib.hid S5
        clear hw9
        obtain ⟨y3, y5, y6, y7, y9, y15, yf⟩ := S5.out.st.pn.pr.f
        have L5 := S5.out.st.pn.pr.lt
        obtain ⟨r0, r1, r5⟩ := cells6 S5.out.blk
        go_wp2
        go_end0
        refine ⟨rfl, ?_⟩
        have hz := S5.out.wr hk0.out
        have e1 := HLW.out
        simpa [declT, e1] using hz
  case false =>
    cases imp
    case false => as_aux_lemma =>
      go_enter Tryz.func51, Tryz.ntmps51
      go_upto_region 1 with fail
      go_wp2_with fail
      refine (indent_0 F G g false a v css w1 S0.out.st.pn).mono ?_
      rintro e w9 ⟨rfl, rfl⟩
      have B0 : Hid ((css).length + 8 * s.size + 100 ≤ 140737488355328) := Lib.hid (by have b0 := HB.out; have b1 := HI1.out; have b2 := HI2.out; have b3 := HRO.out; have b4 := HSS.out; simp only [List.length_append, List.length_cons, List.length_nil, ne_eq, decide_not] at b1 b2 b3 ⊢; first | omega | (simp_all <;> omega))
      go_wp2_with fail
      refine (Ident0_n false s cs S0.out.st.pn HC.out HS.out B0.out).mono ?_
      rintro e w9 ⟨rfl, hw9⟩
      clear y3 y5 y6 y7 y9 y15 yf r0 r1 r5
      obtain ⟨v1, S1⟩ := S0.out.go hw9
      replace S1 := Lib.hid S1
      clear hw9
      obtain ⟨y3, y5, y6, y7, y9, y15, yf⟩ := S1.out.st.pn.pr.f
      have L1 := S1.out.st.pn.pr.lt
      obtain ⟨r0, r1, r5⟩ := cells6 S1.out.blk
      have B1 : Hid ((css ++ identP a false (iniE 0 cs) cs).length + 1 ≤ 140737488355328) := Lib.hid (by have b0 := HB.out; have b1 := HI1.out; have b2 := HI2.out; have b3 := HRO.out; have b4 := HSS.out; simp only [List.length_append, List.length_cons, List.length_nil, ne_eq, decide_not] at b1 b2 b3 ⊢; first | omega | (simp_all <;> omega))
      go_wp2_with fail
      refine (Print_1 S1.out.st.pn 58 B1.out).mono ?_
      rintro e w9 ⟨rfl, hw9⟩
      clear y3 y5 y6 y7 y9 y15 yf r0 r1 r5
      obtain ⟨v2, S2⟩ := S1.out.go hw9
      replace S2 := Lib.hid S2
      clear hw9
      obtain ⟨y3, y5, y6, y7, y9, y15, yf⟩ := S2.out.st.pn.pr.f
      have L2 := S2.out.st.pn.pr.lt
      obtain ⟨r0, r1, r5⟩ := cells6 S2.out.blk
      have B2 : Hid ((css ++ identP a false (iniE 0 cs) cs ++ [58]).length + costL l + 1000 ≤ 140737488355328) := Lib.hid (by have b0 := HB.out; have b1 := HI1.out; have b2 := HI2.out; have b3 := HRO.out; have b4 := HSS.out; simp only [List.length_append, List.length_cons, List.length_nil, ne_eq, decide_not] at b1 b2 b3 ⊢; first | omega | (simp_all <;> omega))
      go_wp2_with fail
      refine (HT.out g false a _ _ _ 0 true _ S2.out.st.pn S2.out.row HOK.out HN.out B2.out).mono ?_
      rw [HLW.out]; rintro e w9 ⟨rfl, hw9⟩
      clear y3 y5 y6 y7 y9 y15 yf r0 r1 r5
      obtain ⟨v3, S3⟩ := S2.out.go hw9
      replace S3 := Lib.hid S3
      clear hw9
      obtain ⟨y3, y5, y6, y7, y9, y15, yf⟩ := S3.out.st.pn.pr.f
      have L3 := S3.out.st.pn.pr.lt
      obtain ⟨r0, r1, r5⟩ := cells6 S3.out.blk
      have B3 : Hid ((css ++ identP a false (iniE 0 cs) cs ++ [58] ++ rowT a (firstW l) l).length + 1 ≤ 140737488355328) := Lib.hid (by have b0 := HB.out; have b1 := HI1.out; have b2 := HI2.out; have b3 := HRO.out; have b4 := HSS.out; simp only [List.length_append, List.length_cons, List.length_nil, ne_eq, decide_not] at b1 b2 b3 ⊢; first | omega | (simp_all <;> omega))
      go_wp2_with fail
      refine (Print_1 S3.out.st.pn 59 B3.out).mono ?_
      rintro e w9 ⟨rfl, hw9⟩
      clear y3 y5 y6 y7 y9 y15 yf r0 r1 r5
      obtain ⟨v4, S4⟩ := S3.out.go hw9
      replace S4 := Lib.hid S4
      clear hw9
      obtain ⟨y3, y5, y6, y7, y9, y15, yf⟩ := S4.out.st.pn.pr.f
      have L4 := S4.out.st.pn.pr.lt
      obtain ⟨r0, r1, r5⟩ := cells6 S4.out.blk
      have B4 : Hid ((css ++ identP a false (iniE 0 cs) cs ++ [58] ++ rowT a (firstW l) l ++ [59]).length + 1 ≤ 140737488355328) := Lib.hid (by have b0 := HB.out; have b1 := HI1.out; have b2 := HI2.out; have b3 := HRO.out; have b4 := HSS.out; simp only [List.length_append, List.length_cons, List.length_nil, ne_eq, decide_not] at b1 b2 b3 ⊢; first | omega | (simp_all <;> omega))
      go_wp2_with fail
      refine (Print_1 S4.out.st.pn 10 B4.out).mono ?_
      rintro e w9 ⟨rfl, hw9⟩
      clear y3 y5 y6 y7 y9 y15 yf r0 r1 r5
      obtain ⟨v5, S5⟩ := S4.out.go hw9
      replace S5 := Lib.hid S5
      clear hw9
      obtain ⟨y3, y5, y6, y7, y9, y15, yf⟩ := S5.out.st.pn.pr.f
      have L5 := S5.out.st.pn.pr.lt
      obtain ⟨r0, r1, r5⟩ := cells6 S5.out.blk
      go_wp2
      go_end0
      refine ⟨rfl, ?_⟩
      have hz := S5.out.wr hk0.out
      have e1 := HLW.out
      simpa [declT, e1] using hz
    case true =>
      cases lw
      case true => as_aux_lemma =>
        go_enter Tryz.func51, Tryz.ntmps51
        go_upto_region 1 with fail
        go_wp2_with fail
        refine (indent_0 F G g false a v css w1 S0.out.st.pn).mono ?_
        rintro e w9 ⟨rfl, rfl⟩
        have B0 : Hid ((css).length + 8 * s.size + 100 ≤ 140737488355328) := Lib.hid (by have b0 := HB.out; have b1 := HI1.out; have b2 := HI2.out; have b3 := HRO.out; have b4 := HSS.out; simp only [List.length_append, List.length_cons, List.length_nil, ne_eq, decide_not] at b1 b2 b3 ⊢; first | omega | (simp_all <;> omega))
        go_wp2_with fail
        refine (Ident0_n false s cs S0.out.st.pn HC.out HS.out B0.out).mono ?_
        rintro e w9 ⟨rfl, hw9⟩
        clear y3 y5 y6 y7 y9 y15 yf r0 r1 r5
        obtain ⟨v1, S1⟩ := S0.out.go hw9
        replace S1 := Lib.hid S1
        clear hw9
        obtain ⟨y3, y5, y6, y7, y9, y15, yf⟩ := S1.out.st.pn.pr.f
        have L1 := S1.out.st.pn.pr.lt
        obtain ⟨r0, r1, r5⟩ := cells6 S1.out.blk
        have B1 : Hid ((css ++ identP a false (iniE 0 cs) cs).length + 1 ≤ 140737488355328) := Lib.hid (by have b0 := HB.out; have b1 := HI1.out; have b2 := HI2.out; have b3 := HRO.out; have b4 := HSS.out; simp only [List.length_append, List.length_cons, List.length_nil, ne_eq, decide_not] at b1 b2 b3 ⊢; first | omega | (simp_all <;> omega))
        go_wp2_with fail
        refine (Print_1 S1.out.st.pn 58 B1.out).mono ?_
        rintro e w9 ⟨rfl, hw9⟩
        clear y3 y5 y6 y7 y9 y15 yf r0 r1 r5
        obtain ⟨v2, S2⟩ := S1.out.go hw9
        replace S2 := Lib.hid S2
        clear hw9
        obtain ⟨y3, y5, y6, y7, y9, y15, yf⟩ := S2.out.st.pn.pr.f
        have L2 := S2.out.st.pn.pr.lt
        obtain ⟨r0, r1, r5⟩ := cells6 S2.out.blk
        have B2 : Hid ((css ++ identP a false (iniE 0 cs) cs ++ [58]).length + costL l + 1000 ≤ 140737488355328) := Lib.hid (by have b0 := HB.out; have b1 := HI1.out; have b2 := HI2.out; have b3 := HRO.out; have b4 := HSS.out; simp only [List.length_append, List.length_cons, List.length_nil, ne_eq, decide_not] at b1 b2 b3 ⊢; first | omega | (simp_all <;> omega))
        go_wp2_with fail
        refine (HT.out g false a _ _ _ 0 true _ S2.out.st.pn S2.out.row HOK.out HN.out B2.out).mono ?_
        rw [HLW.out]; rintro e w9 ⟨rfl, hw9⟩
        clear y3 y5 y6 y7 y9 y15 yf r0 r1 r5
        obtain ⟨v3, S3⟩ := S2.out.go hw9
        replace S3 := Lib.hid S3
        clear hw9
        obtain ⟨y3, y5, y6, y7, y9, y15, yf⟩ := S3.out.st.pn.pr.f
        have L3 := S3.out.st.pn.pr.lt
        obtain ⟨r0, r1, r5⟩ := cells6 S3.out.blk
        have B3 : Hid ((css ++ identP a false (iniE 0 cs) cs ++ [58] ++ rowT a (firstW l) l).length + 10 ≤ 140737488355328) := Lib.hid (by have b0 := HB.out; have b1 := HI1.out; have b2 := HI2.out; have b3 := HRO.out; have b4 := HSS.out; simp only [List.length_append, List.length_cons, List.length_nil, ne_eq, decide_not] at b1 b2 b3 ⊢; first | omega | (simp_all <;> omega))
        go_wp2_with fail
        refine (Print_n S3.out.st.pn ⟨#[33, 105, 109, 112, 111, 114, 116, 97, 110, 116]⟩ B3.out).mono ?_
        rintro e w9 ⟨rfl, hw9⟩
        clear y3 y5 y6 y7 y9 y15 yf r0 r1 r5
        obtain ⟨v4, S4⟩ := S3.out.go hw9
        replace S4 := Lib.hid S4
        clear hw9
        obtain ⟨y3, y5, y6, y7, y9, y15, yf⟩ := S4.out.st.pn.pr.f
        have L4 := S4.out.st.pn.pr.lt
        obtain ⟨r0, r1, r5⟩ := cells6 S4.out.blk
        have B4 : Hid ((css ++ identP a false (iniE 0 cs) cs ++ [58] ++ rowT a (firstW l) l ++ [33, 105, 109, 112, 111, 114, 116, 97, 110, 116]).length + 1 ≤ 140737488355328) := Lib.hid (by have b0 := HB.out; have b1 := HI1.out; have b2 := HI2.out; have b3 := HRO.out; have b4 := HSS.out; simp only [List.length_append, List.length_cons, List.length_nil, ne_eq, decide_not] at b1 b2 b3 ⊢; first | omega | (simp_all <;> omega))
        go_wp2_with fail
        refine (Print_1 S4.out.st.pn 59 B4.out).mono ?_
        rintro e w9 ⟨rfl, hw9⟩
        clear y3 y5 y6 y7 y9 y15 yf r0 r1 r5
        obtain ⟨v5, S5⟩ := S4.out.go hw9
        replace S5 := Lib.hid S5
        clear hw9
        obtain ⟨y3, y5, y6, y7, y9, y15, yf⟩ := S5.out.st.pn.pr.f
        have L5 := S5.out.st.pn.pr.lt
        obtain ⟨r0, r1, r5⟩ := cells6 S5.out.blk
        have B5 : Hid ((css ++ identP a false (iniE 0 cs) cs ++ [58] ++ rowT a (firstW l) l ++ [33, 105, 109, 112, 111, 114, 116, 97, 110, 116] ++ [59]).length + 1 ≤ 140737488355328) := Lib.hid (by have b0 := HB.out; have b1 := HI1.out; have b2 := HI2.out; have b3 := HRO.out; have b4 := HSS.out; simp only [List.length_append, List.length_cons, List.length_nil, ne_eq, decide_not] at b1 b2 b3 ⊢; first | omega | (simp_all <;> omega))
        go_wp2_with fail
        refine (Print_1 S5.out.st.pn 10 B5.out).mono ?_
        rintro e w9 ⟨rfl, hw9⟩
        clear y3 y5 y6 y7 y9 y15 yf r0 r1 r5
        obtain ⟨v6, S6⟩ := S5.out.go hw9
        replace S6 := Lib.hid S6
        clear hw9
        obtain ⟨y3, y5, y6, y7, y9, y15, yf⟩ := S6.out.st.pn.pr.f
        have L6 := S6.out.st.pn.pr.lt
        obtain ⟨r0, r1, r5⟩ := cells6 S6.out.blk
        go_wp2
        go_end0
        refine ⟨rfl, ?_⟩
        have hz := S6.out.wr hk0.out
        have e1 := HLW.out
        simpa [declT, e1] using hz
      case false =>
        cases l with
        | nil => as_aux_lemma =>
          simp only [List.length_nil] at S0 hll h47 r1 ⊢
          go_enter Tryz.func51, Tryz.ntmps51
          go_upto_region 1 with fail
          go_wp2_with fail
          refine (indent_0 F G g false a v css w1 S0.out.st.pn).mono ?_
          rintro e w9 ⟨rfl, rfl⟩
          have B0 : Hid ((css).length + 8 * s.size + 100 ≤ 140737488355328) := Lib.hid (by have b0 := HB.out; have b1 := HI1.out; have b2 := HI2.out; have b3 := HRO.out; have b4 := HSS.out; simp only [List.length_append, List.length_cons, List.length_nil, ne_eq, decide_not] at b1 b2 b3 ⊢; first | omega | (simp_all <;> omega))
          go_wp2_with fail
          refine (Ident0_n false s cs S0.out.st.pn HC.out HS.out B0.out).mono ?_
          rintro e w9 ⟨rfl, hw9⟩
          clear y3 y5 y6 y7 y9 y15 yf r0 r1 r5
          obtain ⟨v1, S1⟩ := S0.out.go hw9
          replace S1 := Lib.hid S1
          clear hw9
          obtain ⟨y3, y5, y6, y7, y9, y15, yf⟩ := S1.out.st.pn.pr.f
          have L1 := S1.out.st.pn.pr.lt
          obtain ⟨r0, r1, r5⟩ := cells6 S1.out.blk
          have B1 : Hid ((css ++ identP a false (iniE 0 cs) cs).length + 1 ≤ 140737488355328) := Lib.hid (by have b0 := HB.out; have b1 := HI1.out; have b2 := HI2.out; have b3 := HRO.out; have b4 := HSS.out; simp only [List.length_append, List.length_cons, List.length_nil, ne_eq, decide_not] at b1 b2 b3 ⊢; first | omega | (simp_all <;> omega))
          go_wp2_with fail
          refine (Print_1 S1.out.st.pn 58 B1.out).mono ?_
          rintro e w9 ⟨rfl, hw9⟩
          clear y3 y5 y6 y7 y9 y15 yf r0 r1 r5
          obtain ⟨v2, S2⟩ := S1.out.go hw9
          replace S2 := Lib.hid S2
          clear hw9
          obtain ⟨y3, y5, y6, y7, y9, y15, yf⟩ := S2.out.st.pn.pr.f
          have L2 := S2.out.st.pn.pr.lt
          obtain ⟨r0, r1, r5⟩ := cells6 S2.out.blk
          have B2 : Hid ((css ++ identP a false (iniE 0 cs) cs ++ [58]).length + costL [] + 1000 ≤ 140737488355328) := Lib.hid (by have b0 := HB.out; have b1 := HI1.out; have b2 := HI2.out; have b3 := HRO.out; have b4 := HSS.out; simp only [List.length_append, List.length_cons, List.length_nil, ne_eq, decide_not] at b1 b2 b3 ⊢; first | omega | (simp_all <;> omega))
          go_wp2_with fail
          refine (HT.out g false a _ _ _ 0 true _ S2.out.st.pn S2.out.row HOK.out HN.out B2.out).mono ?_
          rw [HLW.out]; rintro e w9 ⟨rfl, hw9⟩
          clear y3 y5 y6 y7 y9 y15 yf r0 r1 r5
          obtain ⟨v3, S3⟩ := S2.out.go hw9
          replace S3 := Lib.hid S3
          clear hw9
          obtain ⟨y3, y5, y6, y7, y9, y15, yf⟩ := S3.out.st.pn.pr.f
          have L3 := S3.out.st.pn.pr.lt
          obtain ⟨r0, r1, r5⟩ := cells6 S3.out.blk
          have B3 : Hid ((css ++ identP a false (iniE 0 cs) cs ++ [58] ++ rowT a (firstW []) []).length + 10 ≤ 140737488355328) := Lib.hid (by have b0 := HB.out; have b1 := HI1.out; have b2 := HI2.out; have b3 := HRO.out; have b4 := HSS.out; simp only [List.length_append, List.length_cons, List.length_nil, ne_eq, decide_not] at b1 b2 b3 ⊢; first | omega | (simp_all <;> omega))
          go_wp2_with fail
          refine (Print_n S3.out.st.pn ⟨#[33, 105, 109, 112, 111, 114, 116, 97, 110, 116]⟩ B3.out).mono ?_
          rintro e w9 ⟨rfl, hw9⟩
          clear y3 y5 y6 y7 y9 y15 yf r0 r1 r5
          obtain ⟨v4, S4⟩ := S3.out.go hw9
          replace S4 := Lib.hid S4
          clear hw9
          obtain ⟨y3, y5, y6, y7, y9, y15, yf⟩ := S4.out.st.pn.pr.f
          have L4 := S4.out.st.pn.pr.lt
          obtain ⟨r0, r1, r5⟩ := cells6 S4.out.blk
          have B4 : Hid ((css ++ identP a false (iniE 0 cs) cs ++ [58] ++ rowT a (firstW []) [] ++ [33, 105, 109, 112, 111, 114, 116, 97, 110, 116]).length + 1 ≤ 140737488355328) := Lib.hid (by have b0 := HB.out; have b1 := HI1.out; have b2 := HI2.out; have b3 := HRO.out; have b4 := HSS.out; simp only [List.length_append, List.length_cons, List.length_nil, ne_eq, decide_not] at b1 b2 b3 ⊢; first | omega | (simp_all <;> omega))
          go_wp2_with fail
          refine (Print_1 S4.out.st.pn 59 B4.out).mono ?_
          rintro e w9 ⟨rfl, hw9⟩
          clear y3 y5 y6 y7 y9 y15 yf r0 r1 r5
          obtain ⟨v5, S5⟩ := S4.out.go hw9
          replace S5 := Lib.hid S5
          clear hw9
          obtain ⟨y3, y5, y6, y7, y9, y15, yf⟩ := S5.out.st.pn.pr.f
          have L5 := S5.out.st.pn.pr.lt
          obtain ⟨r0, r1, r5⟩ := cells6 S5.out.blk
          have B5 : Hid ((css ++ identP a false (iniE 0 cs) cs ++ [58] ++ rowT a (firstW []) [] ++ [33, 105, 109, 112, 111, 114, 116, 97, 110, 116] ++ [59]).length + 1 ≤ 140737488355328) := Lib.hid (by have b0 := HB.out; have b1 := HI1.out; have b2 := HI2.out; have b3 := HRO.out; have b4 := HSS.out; simp only [List.length_append, List.length_cons, List.length_nil, ne_eq, decide_not] at b1 b2 b3 ⊢; first | omega | (simp_all <;> omega))
          go_wp2_with fail
          refine (Print_1 S5.out.st.pn 10 B5.out).mono ?_
          rintro e w9 ⟨rfl, hw9⟩
          clear y3 y5 y6 y7 y9 y15 yf r0 r1 r5
          obtain ⟨v6, S6⟩ := S5.out.go hw9
          replace S6 := Lib.hid S6
          clear hw9
          obtain ⟨y3, y5, y6, y7, y9, y15, yf⟩ := S6.out.st.pn.pr.f
          have L6 := S6.out.st.pn.pr.lt
          obtain ⟨r0, r1, r5⟩ := cells6 S6.out.blk
          go_wp2
          go_end0
          refine ⟨rfl, ?_⟩
          have hz := S6.out.wr hk0.out
          simpa [declT, rowT, firstW, lastW] using hz
        | cons t0 t1 => as_aux_lemma =>
          have hl0 : 0 < (t0 :: t1).length := by simp
          generalize hl : t0 :: t1 = l at *
          replace hl := Lib.hid hl
          go_enter Tryz.func51, Tryz.ntmps51
          go_upto_region 1 with fail
          go_wp2_with fail
          refine (indent_0 F G g false a v css w1 S0.out.st.pn).mono ?_
          rintro e w9 ⟨rfl, rfl⟩
          have B0 : Hid ((css).length + 8 * s.size + 100 ≤ 140737488355328) := Lib.hid (by have b0 := HB.out; have b1 := HI1.out; have b2 := HI2.out; have b3 := HRO.out; have b4 := HSS.out; simp only [List.length_append, List.length_cons, List.length_nil, ne_eq, decide_not] at b1 b2 b3 ⊢; first | omega | (simp_all <;> omega))
          go_wp2_with fail
          refine (Ident0_n false s cs S0.out.st.pn HC.out HS.out B0.out).mono ?_
          rintro e w9 ⟨rfl, hw9⟩
          clear y3 y5 y6 y7 y9 y15 yf r0 r1 r5
          obtain ⟨v1, S1⟩ := S0.out.go hw9
          replace S1 := Lib.hid S1
          clear hw9
          obtain ⟨y3, y5, y6, y7, y9, y15, yf⟩ := S1.out.st.pn.pr.f
          have L1 := S1.out.st.pn.pr.lt
          obtain ⟨r0, r1, r5⟩ := cells6 S1.out.blk
          have B1 : Hid ((css ++ identP a false (iniE 0 cs) cs).length + 1 ≤ 140737488355328) := Lib.hid (by have b0 := HB.out; have b1 := HI1.out; have b2 := HI2.out; have b3 := HRO.out; have b4 := HSS.out; simp only [List.length_append, List.length_cons, List.length_nil, ne_eq, decide_not] at b1 b2 b3 ⊢; first | omega | (simp_all <;> omega))
          go_wp2_with fail
          refine (Print_1 S1.out.st.pn 58 B1.out).mono ?_
          rintro e w9 ⟨rfl, hw9⟩
          clear y3 y5 y6 y7 y9 y15 yf r0 r1 r5
          obtain ⟨v2, S2⟩ := S1.out.go hw9
          replace S2 := Lib.hid S2
          clear hw9
          obtain ⟨y3, y5, y6, y7, y9, y15, yf⟩ := S2.out.st.pn.pr.f
          have L2 := S2.out.st.pn.pr.lt
          obtain ⟨r0, r1, r5⟩ := cells6 S2.out.blk
          have B2 : Hid ((css ++ identP a false (iniE 0 cs) cs ++ [58]).length + costL l + 1000 ≤ 140737488355328) := Lib.hid (by have b0 := HB.out; have b1 := HI1.out; have b2 := HI2.out; have b3 := HRO.out; have b4 := HSS.out; simp only [List.length_append, List.length_cons, List.length_nil, ne_eq, decide_not] at b1 b2 b3 ⊢; first | omega | (simp_all <;> omega))
          go_wp2_with fail
          refine (HT.out g false a _ _ _ 0 true _ S2.out.st.pn S2.out.row HOK.out HN.out B2.out).mono ?_
          rw [HLW.out]; rintro e w9 ⟨rfl, hw9⟩
          clear y3 y5 y6 y7 y9 y15 yf r0 r1 r5
          obtain ⟨v3, S3⟩ := S2.out.go hw9
          replace S3 := Lib.hid S3
          clear hw9
          obtain ⟨y3, y5, y6, y7, y9, y15, yf⟩ := S3.out.st.pn.pr.f
          have L3 := S3.out.st.pn.pr.lt
          obtain ⟨r0, r1, r5⟩ := cells6 S3.out.blk
          have B3 : Hid ((css ++ identP a false (iniE 0 cs) cs ++ [58] ++ rowT a (firstW l) l).length + 1 ≤ 140737488355328) := Lib.hid (by have b0 := HB.out; have b1 := HI1.out; have b2 := HI2.out; have b3 := HRO.out; have b4 := HSS.out; simp only [List.length_append, List.length_cons, List.length_nil, ne_eq, decide_not] at b1 b2 b3 ⊢; first | omega | (simp_all <;> omega))
          go_wp2_with fail
          refine (Print_1 S3.out.st.pn 32 B3.out).mono ?_
          rintro e w9 ⟨rfl, hw9⟩
          clear y3 y5 y6 y7 y9 y15 yf r0 r1 r5
          obtain ⟨v4, S4⟩ := S3.out.go hw9
          replace S4 := Lib.hid S4
          clear hw9
          obtain ⟨y3, y5, y6, y7, y9, y15, yf⟩ := S4.out.st.pn.pr.f
          have L4 := S4.out.st.pn.pr.lt
          obtain ⟨r0, r1, r5⟩ := cells6 S4.out.blk
          have B4 : Hid ((css ++ identP a false (iniE 0 cs) cs ++ [58] ++ rowT a (firstW l) l ++ [32]).length + 10 ≤ 140737488355328) := Lib.hid (by have b0 := HB.out; have b1 := HI1.out; have b2 := HI2.out; have b3 := HRO.out; have b4 := HSS.out; simp only [List.length_append, List.length_cons, List.length_nil, ne_eq, decide_not] at b1 b2 b3 ⊢; first | omega | (simp_all <;> omega))
          go_wp2_with fail
          refine (Print_n S4.out.st.pn ⟨#[33, 105, 109, 112, 111, 114, 116, 97, 110, 116]⟩ B4.out).mono ?_
          rintro e w9 ⟨rfl, hw9⟩
          clear y3 y5 y6 y7 y9 y15 yf r0 r1 r5
          obtain ⟨v5, S5⟩ := S4.out.go hw9
          replace S5 := Lib.hid S5
          clear hw9
          obtain ⟨y3, y5, y6, y7, y9, y15, yf⟩ := S5.out.st.pn.pr.f
          have L5 := S5.out.st.pn.pr.lt
          obtain ⟨r0, r1, r5⟩ := cells6 S5.out.blk
          have B5 : Hid ((css ++ identP a false (iniE 0 cs) cs ++ [58] ++ rowT a (firstW l) l ++ [32] ++ [33, 105, 109, 112, 111, 114, 116, 97, 110, 116]).length + 1 ≤ 140737488355328) := Lib.hid (by have b0 := HB.out; have b1 := HI1.out; have b2 := HI2.out; have b3 := HRO.out; have b4 := HSS.out; simp only [List.length_append, List.length_cons, List.length_nil, ne_eq, decide_not] at b1 b2 b3 ⊢; first | omega | (simp_all <;> omega))
          go_wp2_with fail
          refine (Print_1 S5.out.st.pn 59 B5.out).mono ?_
          rintro e w9 ⟨rfl, hw9⟩
          clear y3 y5 y6 y7 y9 y15 yf r0 r1 r5
          obtain ⟨v6, S6⟩ := S5.out.go hw9
          replace S6 := Lib.hid S6
          clear hw9
          obtain ⟨y3, y5, y6, y7, y9, y15, yf⟩ := S6.out.st.pn.pr.f
          have L6 := S6.out.st.pn.pr.lt
          obtain ⟨r0, r1, r5⟩ := cells6 S6.out.blk
          have B6 : Hid ((css ++ identP a false (iniE 0 cs) cs ++ [58] ++ rowT a (firstW l) l ++ [32] ++ [33, 105, 109, 112, 111, 114, 116, 97, 110, 116] ++ [59]).length + 1 ≤ 140737488355328) := Lib.hid (by have b0 := HB.out; have b1 := HI1.out; have b2 := HI2.out; have b3 := HRO.out; have b4 := HSS.out; simp only [List.length_append, List.length_cons, List.length_nil, ne_eq, decide_not] at b1 b2 b3 ⊢; first | omega | (simp_all <;> omega))
          go_wp2_with fail
          refine (Print_1 S6.out.st.pn 10 B6.out).mono ?_
          rintro e w9 ⟨rfl, hw9⟩
          clear y3 y5 y6 y7 y9 y15 yf r0 r1 r5
          obtain ⟨v7, S7⟩ := S6.out.go hw9
          replace S7 := Lib.hid S7
          clear hw9
          obtain ⟨y3, y5, y6, y7, y9, y15, yf⟩ := S7.out.st.pn.pr.f
          have L7 := S7.out.st.pn.pr.lt
          obtain ⟨r0, r1, r5⟩ := cells6 S7.out.blk
          go_wp2
          go_end0
          refine ⟨rfl, ?_⟩
          have hz := S7.out.wr hk0.out
          have e1 := HLW.out
          have e2 := hl.out
          subst e2
          simpa [declT, e1] using hz
end Go.Proofs.YtkaejhdncohgpaaGreatFmt
