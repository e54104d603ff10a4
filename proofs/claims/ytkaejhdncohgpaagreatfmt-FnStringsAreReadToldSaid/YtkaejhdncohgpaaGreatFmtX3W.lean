/- Walk: the law of texts in quotes. Condition: none but lengths that a machine can have. -/
import Derived.Test.YtkaejhdncohgpaaGreatFmtLO
import Derived.Test.YtkaejhdncohgpaaGreatFmtQ4
import Derived.Test.YtkaejhdncohgpaaGreatFmtDB
namespace Go.Proofs.YtkaejhdncohgpaaGreatFmt
set_option linter.all false
open Go.RowKit Go.Lib
set_option maxRecDepth 100000
set_option maxHeartbeats 8000000

def tdsS (cs ct : List Int) : List TD := [.mk 36 cs 0 0 none, .mk 36 ct 0 0 none]
theorem tds_s (cs ct : List Int) (h1 : ∀ c ∈ cs, Scal c) (h2 : ∀ c ∈ ct, Scal c) : (ndsS cs ct).map tdOf = [.mk 36 cs 0 0 none, .mk 36 ct 0 0 none] := by
  simp [ndsS, tdOf, wsOf, dcs_encs _ h1, dcs_encs _ h2]
theorem tsok_s (cs ct : List Int) (h1 : ∀ c ∈ cs, Scal c) (h2 : ∀ c ∈ ct, Scal c) : TsOk true ((ndsS cs ct).map tdOf) := by
  rw [tds_s cs ct h1 h2]
  exact .cons _ _ _ _ _ _ (.inl rfl) (.inr (.inr (.inr (.inr (.inl ⟨rfl, rfl⟩))))) h1 (by intro h; cases h) (.none _ (by unfold Opn; omega))
    (.cons _ _ _ _ _ _ (.inl rfl) (.inr (.inr (.inr (.inr (.inl ⟨rfl, rfl⟩))))) h2 (by intro h; cases h) (.none _ (by unfold Opn; omega)) .nil)
theorem cost_s (cs ct : List Int) (h1 : ∀ c ∈ cs, Scal c) (h2 : ∀ c ∈ ct, Scal c) : costL ((ndsS cs ct).map tdOf) ≤ 8 * (encs cs).length + 8 * (encs ct).length + 800 := by
  rw [tds_s cs ct h1 h2]
  simp only [costL, costT, costO]; omega
theorem nocm_s (cs ct : List Int) (h1 : ∀ c ∈ cs, Scal c) (h2 : ∀ c ∈ ct, Scal c) : NoCm ((ndsS cs ct).map tdOf) := by
  rw [tds_s cs ct h1 h2]
  intro t ht
  simp at ht
  rcases ht with rfl | rfl <;> exact ⟨by simp [TD.k], by simp [TD.k]⟩
theorem flt_s (cs ct : List Int) : Flt (ndsS cs ct) :=
  .plain _ _ rfl (by show (36 : Int) ≠ 27; decide) (by show (36 : Int) ≠ 33; decide) (by show (36 : Int) ≠ 32; decide) (by show (36 : Int) ≠ 31; decide)
    (.plain _ _ rfl (by show (36 : Int) ≠ 27; decide) (by show (36 : Int) ≠ 33; decide) (by show (36 : Int) ≠ 32; decide) (by show (36 : Int) ≠ 31; decide) .nil)
theorem ndok_s (cs ct : List Int) (h1 : ∀ c ∈ cs, Scal c) (h2 : ∀ c ∈ ct, Scal c) : ∀ x ∈ ndsS cs ct, NdOk x := by
  have e1 := dcs_back cs h1
  have e2 := dcs_back ct h2
  intro x hx
  simp [ndsS] at hx
  rcases hx with rfl | rfl
  · exact ⟨by show (0 : Int) ≤ 36; decide, by show (36 : Int) < 256; decide, by show (0 : Int) ≤ 0; decide, by show (0 : Int) < 65536; decide, e1.symm⟩
  · exact ⟨by show (0 : Int) ≤ 36; decide, by show (36 : Int) < 256; decide, by show (0 : Int) ≤ 0; decide, by show (0 : Int) < 65536; decide, e2.symm⟩
theorem Strings_any (F : Go.Stop.Interp) (s t : ByteArray) (m a : Bool) (w : World) (hT : TbG F w.heap.size w) (b1 : s.size ≤ 9223372036854775807) (b2 : t.size ≤ 9223372036854775807) :
    Calls Tryz.prog 5 #[.string s, .string t, .bool m, .bool a] w fun e w' => e = .returned (.bool true) ∧ Kp (fun _ => False) w w' := by
  by_cases g1 : 2147483647 < s.size
  · go_enter Tryz.func5, Tryz.ntmps5
    go_wp2
    go_ret
    exact ⟨rfl, Kp.refl _ _⟩
  by_cases g2 : 2147483647 < t.size
  · go_enter Tryz.func5, Tryz.ntmps5
    go_wp2
    go_ret
    exact ⟨rfl, Kp.refl _ _⟩
  have g3 : s.size ≤ 2147483647 := by omega
  have g4 : t.size ≤ 2147483647 := by omega
  clear g1 g2 b1 b2
  obtain ⟨ls, rfl⟩ : ∃ l, s = bstr l := ⟨s.data.toList, rfl⟩
  obtain ⟨lt, rfl⟩ : ∃ l, t = bstr l := ⟨t.data.toList, rfl⟩
  have z1 : (bstr ls).size = ls.length := bstr_size _
  have z2 : (bstr lt).size = lt.length := bstr_size _
  have e1 : (⟨#[120]⟩ : ByteArray) ++ bstr ls = bstr (120 :: ls) := by rw [show (⟨#[120]⟩ : ByteArray) = bstr [120] from rfl, bstr_add]; rfl
  have e2 : (⟨#[120]⟩ : ByteArray) ++ bstr lt = bstr (120 :: lt) := by rw [show (⟨#[120]⟩ : ByteArray) = bstr [120] from rfl, bstr_add]; rfl
  have e3 : bstr ls ++ bstr lt = bstr (ls ++ lt) := bstr_add _ _
  have s1 : (⟨#[120]⟩ : ByteArray).size + (bstr ls).size ≤ 9223372036854775807 := by show 1 + _ ≤ _; omega
  have s2 : (⟨#[120]⟩ : ByteArray).size + (bstr lt).size ≤ 9223372036854775807 := by show 1 + _ ≤ _; omega
  have s3 : (bstr ls).size + (bstr lt).size ≤ 9223372036854775807 := by omega
  have hP1 := IsPlain_any (bstr (120 :: ls)) w (by rw [bstr_size, List.length_cons]; omega)
  have hP2 := IsPlain_any (bstr (120 :: lt)) w (by rw [bstr_size, List.length_cons]; omega)
  have hL := low_any (bstr (ls ++ lt)) a w (by rw [bstr_size, List.length_append]; omega)
  have d1 : ∀ l : List UInt8, (bstr l).data.toList = l := fun l => by simp [bstr]
  rw [d1] at hP1 hP2 hL
  have HP1 := Lib.hid hP1
  have HP2 := Lib.hid hP2
  have HL := Lib.hid hL
  have HT := Lib.hid hT
  clear hP1 hP2 hL d1 hT
  cases h1 : plB (120 :: ls)
  case false =>
    rw [h1] at HP1
    clear h1
    go_enter Tryz.func5, Tryz.ntmps5
    go_wp2_with (first | (go_at_call 16; with_reducible refine HP1.out.mono ?_; rintro e w2 ⟨rfl, hw2⟩; obtain rfl := hw2.symm))
    have HW := Lib.hid (wakes_any F w ((HT.out.kp (Kp.refl (fun _ => False) w) (fun _ f => f.elim)).up (Kp.refl (fun _ => False) w).size))
    have HKW := Lib.hid (Kp.refl (fun _ => False) w)
    go_wp2_with (go_at_call 8; refine HW.out.mono ?_)
    rintro e w3 ⟨rfl, hk3⟩
    have HK3 := Lib.hid (HKW.out.trans hk3)
    clear hk3
    go_wp2
    go_ret
    exact ⟨rfl, HK3.out⟩

  case true =>
  rw [h1] at HP1
  cases h2 : plB (120 :: lt)
  case false =>
    rw [h2] at HP2
    clear h1 h2
    go_enter Tryz.func5, Tryz.ntmps5
    go_wp2_with (first | (go_at_call 16; first | (with_reducible refine HP1.out.mono ?_; rintro e w2 ⟨rfl, hw2⟩; obtain rfl := hw2.symm) | (with_reducible refine HP2.out.mono ?_; rintro e w2 ⟨rfl, hw2⟩; obtain rfl := hw2.symm)))
    have HW := Lib.hid (wakes_any F w ((HT.out.kp (Kp.refl (fun _ => False) w) (fun _ f => f.elim)).up (Kp.refl (fun _ => False) w).size))
    have HKW := Lib.hid (Kp.refl (fun _ => False) w)
    go_wp2_with (go_at_call 8; refine HW.out.mono ?_)
    rintro e w3 ⟨rfl, hk3⟩
    have HK3 := Lib.hid (HKW.out.trans hk3)
    clear hk3
    go_wp2
    go_ret
    exact ⟨rfl, HK3.out⟩

  case true =>
  rw [h2] at HP2
  cases h3 : (!a || lowA (ls ++ lt))
  case false =>
    rw [h3] at HL
    clear h1 h2 h3
    go_enter Tryz.func5, Tryz.ntmps5
    go_wp2_with (first | (go_at_call 16; first | (with_reducible refine HP1.out.mono ?_; rintro e w2 ⟨rfl, hw2⟩; obtain rfl := hw2.symm) | (with_reducible refine HP2.out.mono ?_; rintro e w2 ⟨rfl, hw2⟩; obtain rfl := hw2.symm)) | (go_at_call 17; with_reducible refine HL.out.mono ?_; rintro e w2 ⟨rfl, hw2⟩; obtain rfl := hw2.symm))
    have HW := Lib.hid (wakes_any F w ((HT.out.kp (Kp.refl (fun _ => False) w) (fun _ f => f.elim)).up (Kp.refl (fun _ => False) w).size))
    have HKW := Lib.hid (Kp.refl (fun _ => False) w)
    go_wp2_with (go_at_call 8; refine HW.out.mono ?_)
    rintro e w3 ⟨rfl, hk3⟩
    have HK3 := Lib.hid (HKW.out.trans hk3)
    clear hk3
    go_wp2
    go_ret
    exact ⟨rfl, HK3.out⟩

  case true =>
    rw [h3] at HL
    obtain ⟨cs, rfl, hp1⟩ := plB_x ls h1
    obtain ⟨ct, rfl, hp2⟩ := plB_x lt h2
    have hS1 : Sm a cs := ⟨hp1, fun ha => by
      rw [ha, lowA_app] at h3
      simp at h3
      exact low_encs cs hp1 h3.1⟩
    have hS2 : Sm a ct := ⟨hp2, fun ha => by
      rw [ha, lowA_app] at h3
      simp at h3
      exact low_encs ct hp2 h3.2⟩
    have hc1 : ∀ c ∈ cs, Scal c := fun c hc => (hp1 c hc).1
    have hc2 : ∀ c ∈ ct, Scal c := fun c hc => (hp2 c hc).1
    clear h1 h2 h3 hp1 hp2
    have hkB : Kp (fun _ => False) w (w.alloc (.cells #[.int .i64 36, .int .i64 0, .int .i64 0, .string (bstr (encs cs)), .bool false, .bool false, .int .i64 36, .int .i64 0, .int .i64 0, .string (bstr (encs ct)), .bool false, .bool false] 25)) := (Kp.refl _ w).alloc _
    have hOB : (w.alloc (.cells #[.int .i64 36, .int .i64 0, .int .i64 0, .string (bstr (encs cs)), .bool false, .bool false, .int .i64 36, .int .i64 0, .int .i64 0, .string (bstr (encs ct)), .bool false, .bool false] 25)).ownsRow w.heap.size 25 6 (.slice (some ⟨w.heap.size, 0, none⟩) 2 2) (ndsS cs ct).length ((ndsS cs ct).flatMap ND.cells) := World.ownsRow_lit w _ 2 (Nat.le_refl _) (by unfold maxLen; omega) rfl
    have HKB := Lib.hid hkB
    have HOB := Lib.hid hOB
    clear hkB hOB
    go_enter Tryz.func5, Tryz.ntmps5
    go_upto_region 6 with (first | (go_at_call 16; first | (with_reducible refine HP1.out.mono ?_; rintro e w2 ⟨rfl, hw2⟩; obtain rfl := hw2.symm) | (with_reducible refine HP2.out.mono ?_; rintro e w2 ⟨rfl, hw2⟩; obtain rfl := hw2.symm)) | (go_at_call 17; with_reducible refine HL.out.mono ?_; rintro e w2 ⟨rfl, hw2⟩; obtain rfl := hw2.symm))
    clear HP1 HP2 HL s1 s2 s3 e1 e2 e3
    generalize w.alloc (.cells #[.int .i64 36, .int .i64 0, .int .i64 0, .string (bstr (encs cs)), .bool false, .bool false, .int .i64 36, .int .i64 0, .int .i64 0, .string (bstr (encs ct)), .bool false, .bool false] 25) = wB at *
    generalize hvB : Value.slice (some ⟨w.heap.size, 0, none⟩) 2 2 = vB at *
    have hvB2 := hvB
    clear hvB

    have htE : TbG F wB.heap.size wB := (HT.out.kp HKB.out (fun _ f => f.elim)).up HKB.out.size
    have HA2 := Lib.hid (Decl_any F true ⟨#[107]⟩ [107] vB ((ndsS cs ct).map tdOf) m a false wB htE (fun c hc => ((nm_k a).pl c hc).1) (by decide) (toksC_flat _ _ _ _ HOB.out (by have := show (ndsS cs ct).length ≤ 2 from Nat.le_refl _; omega) (flt_s cs ct) (ndok_s cs ct hc1 hc2)) (tsok_s cs ct hc1 hc2) (fun G => tokens_q F (quot_sum F) G _) (.inr (nocm_s cs ct hc1 hc2)) (by have := cost_s cs ct hc1 hc2; show 8 * 1 + _ + 2000 ≤ _; omega))
    clear htE
    go_wp2_with (go_at_call 13; refine HA2.out.mono ?_)
    rintro e wF ⟨rfl, hkF⟩
    have HB2 := Lib.hid (decl_any ⟨#[107]⟩ (ndsS cs ct) _ vB wF (own_kp HOB.out hkF (fun _ _ f => f)) (by have := show (ndsS cs ct).length ≤ 2 from Nat.le_refl _; omega) (flt_s cs ct) (by simp [ndsS]))
    have HKF := Lib.hid (HKB.out.trans hkF)
    clear hkF
    go_wp2_with (go_at_call 14; refine HB2.out.mono ?_)
    rintro e wG ⟨v14, rfl, ho14, hkG⟩
    have HH2 := Lib.hid (holds_all ((declT m a false [107] ((ndsS cs ct).map tdOf)).length + cs.length + ct.length + 2) _ true _ (strings_decl _ m a cs ct hS1 hS2 (by omega) (by omega)) (by omega) (by have := declT_len m a true [107] _ (fun c hc => ((nm_k a).pl c hc).1) (tsok_s cs ct hc1 hc2); have := cost_s cs ct hc1 hc2; have : (encs [107]).length = 1 := (by decide); omega) _ v14 wG ho14)
    have HKG := Lib.hid (HKF.out.trans hkG)
    clear ho14 hkG
    go_wp2_with (go_at_call 10; refine HH2.out.mono ?_)
    rintro e wH ⟨rfl, hkH⟩
    have hkH' := HKG.out.trans hkH
    have HW := Lib.hid (wakes_any F wH ((HT.out.kp hkH' (fun _ f => f.elim)).up hkH'.size))
    have HKH := Lib.hid hkH'
    clear hkH hkH'
    go_wp2_with (go_at_call 8; refine HW.out.mono ?_)
    rintro e wI ⟨rfl, hkI⟩
    have HKI := Lib.hid (HKH.out.trans hkI)
    clear hkI
    go_wp2
    go_ret
    exact ⟨rfl, HKI.out⟩
end Go.Proofs.YtkaejhdncohgpaaGreatFmt
