/- Walk: the law of numbers. Condition: none but lengths that a machine can have. -/
import Derived.Test.YtkaejhdncohgpaaGreatFmtLO
import Derived.Test.YtkaejhdncohgpaaGreatFmtQ3
import Derived.Test.YtkaejhdncohgpaaGreatFmtLQ
namespace Go.Proofs.YtkaejhdncohgpaaGreatFmt
set_option linter.all false
open Go.RowKit Go.Lib
set_option maxRecDepth 100000
set_option maxHeartbeats 8000000

theorem tds_u (n : Nu) (cs : List Int) (hn : n.Ok) (hsc : ∀ c ∈ cs, Scal c) : (ndsU n cs).map tdOf = [.mk 30 n.cs 2 0 none, .mk 34 (n.cs ++ [37]) 2 0 none, .mk 26 (n.cs ++ cs) 0 (encs n.cs).length none] := by
  have hn1 : ∀ c ∈ n.cs, Scal c := fun c hc => (nu_scal n hn c hc).1
  have hn2 : ∀ c ∈ n.cs ++ [37], Scal c := by
    intro c hc
    rcases List.mem_append.1 hc with hc | hc
    · exact hn1 c hc
    · simp at hc; subst hc; unfold Scal; omega
  have hn3 : ∀ c ∈ n.cs ++ cs, Scal c := by
    intro c hc
    rcases List.mem_append.1 hc with hc | hc
    · exact hn1 c hc
    · exact hsc c hc
  simp [ndsU, tdOf, wsOf, dcs_encs _ hn1, dcs_encs _ hn2, dcs_encs _ hn3]
theorem nu_sc2 (n : Nu) (hn : n.Ok) (l : List Int) (hl : ∀ c ∈ l, Scal c) : ∀ c ∈ n.cs ++ l, Scal c := by
  intro c hc
  rcases List.mem_append.1 hc with hc | hc
  · exact (nu_scal n hn c hc).1
  · exact hl c hc
theorem tsok_u (n : Nu) (cs : List Int) (uq : Bool) (hn : n.Ok) (hsc : ∀ c ∈ cs, Scal c) (hl : (encs n.cs).length < 60000) : TsOk uq ((ndsU n cs).map tdOf) := by
  rw [tds_u n cs hn hsc]
  have raw : ∀ k, Raw k → KOk uq k := fun k h => .inr (.inr (.inr (.inr (.inr (.inr h)))))
  refine .cons _ _ _ _ _ _ (.inr (.inr (.inl rfl))) (raw _ (by unfold Raw; omega)) (fun c hc => (nu_scal n hn c hc).1) (by intro h; cases h) (.none _ (by unfold Opn; omega))
    (.cons _ _ _ _ _ _ (.inr (.inr (.inl rfl))) (raw _ (by unfold Raw; omega)) (nu_sc2 n hn _ (by intro c hc; simp at hc; subst hc; unfold Scal; omega)) (by intro h; cases h) (.none _ (by unfold Opn; omega))
    (.cons _ _ _ _ _ _ (.inl rfl) (.inr (.inr (.inr (.inr (.inr (.inl rfl)))))) (nu_sc2 n hn _ hsc) (fun _ => ⟨by omega, by omega, by rw [Int.toNat_natCast, spl_enc]⟩) (.none _ (by unfold Opn; omega)) .nil))
theorem cost_u (n : Nu) (cs : List Int) (hn : n.Ok) (hsc : ∀ c ∈ cs, Scal c) : costL ((ndsU n cs).map tdOf) ≤ 24 * (encs n.cs).length + 8 * (encs cs).length + 1300 := by
  rw [tds_u n cs hn hsc]
  have e2 : (encs [37]).length = 1 := by decide
  simp only [costL, costT, costO, encs_app, List.length_append, e2]; omega
theorem nocm_u (n : Nu) (cs : List Int) (hn : n.Ok) (hsc : ∀ c ∈ cs, Scal c) : NoCm ((ndsU n cs).map tdOf) := by
  rw [tds_u n cs hn hsc]
  intro t ht
  simp at ht
  rcases ht with rfl | rfl | rfl <;> exact ⟨by simp [TD.k], by simp [TD.k]⟩
theorem flt_u (n : Nu) (cs : List Int) : Flt (ndsU n cs) :=
  .plain _ _ rfl (by show (30 : Int) ≠ 27; decide) (by show (30 : Int) ≠ 33; decide) (by show (30 : Int) ≠ 32; decide) (by show (30 : Int) ≠ 31; decide) (.plain _ _ rfl (by show (34 : Int) ≠ 27; decide) (by show (34 : Int) ≠ 33; decide) (by show (34 : Int) ≠ 32; decide) (by show (34 : Int) ≠ 31; decide)
    (.plain _ _ rfl (by show (26 : Int) ≠ 27; decide) (by show (26 : Int) ≠ 33; decide) (by show (26 : Int) ≠ 32; decide) (by show (26 : Int) ≠ 31; decide) .nil))
theorem ndok_u (n : Nu) (cs : List Int) (hn : n.Ok) (hsc : ∀ c ∈ cs, Scal c) (hl : (encs n.cs).length < 60000) : ∀ x ∈ ndsU n cs, NdOk x := by
  have e1 := dcs_back n.cs (fun c hc => (nu_scal n hn c hc).1)
  have e2 := dcs_back (n.cs ++ [37]) (nu_sc2 n hn _ (by intro c hc; simp at hc; subst hc; unfold Scal; omega))
  have e3 := dcs_back (n.cs ++ cs) (nu_sc2 n hn _ hsc)
  intro x hx
  simp [ndsU] at hx
  rcases hx with rfl | rfl | rfl
  · exact ⟨by show (0 : Int) ≤ 30; decide, by show (30 : Int) < 256; decide, by show (0 : Int) ≤ 0; decide, by show (0 : Int) < 65536; decide, e1.symm⟩
  · exact ⟨by show (0 : Int) ≤ 34; decide, by show (34 : Int) < 256; decide, by show (0 : Int) ≤ 0; decide, by show (0 : Int) < 65536; decide, e2.symm⟩
  · exact ⟨by show (0 : Int) ≤ 26; decide, by show (26 : Int) < 256; decide, by show (0 : Int) ≤ ((encs n.cs).length : Int); omega, by show ((encs n.cs).length : Int) < 65536; omega, e3.symm⟩
theorem Numbers_any (F : Go.Stop.Interp) (z : Int) (v1 v2 : Value) (l1 l2 : List UInt8) (p u : ByteArray) (m a : Bool) (w : World) (hT : TbG F w.heap.size w) (hv1 : SlB w v1 l1) (hv2 : SlB w v2 l2)
    (b1 : l1.length ≤ 9223372036854775807) (b2 : l2.length ≤ 9223372036854775807) (b3 : p.size ≤ 9223372036854775807) (b4 : u.size ≤ 9223372036854775807) :
    Calls Tryz.prog 4 #[.int .i64 z, v1, v2, .string p, .string u, .bool m, .bool a] w fun e w' => e = .returned (.bool true) ∧ Kp (fun _ => False) w w' := by
  obtain ⟨A1, c1, rfl, hA1⟩ := hv1
  obtain ⟨A2, c2, rfl, hA2⟩ := hv2
  by_cases big : 2147483647 < l1.length ∨ 2147483647 < l2.length ∨ 2147483647 < p.size ∨ 2147483647 < u.size
  · clear hA1 hA2 hT
    by_cases g1 : 2147483647 < l1.length
    · go_enter Tryz.func4, Tryz.ntmps4
      go_wp2
      go_ret
      exact ⟨rfl, Kp.refl _ _⟩
    by_cases g2 : 2147483647 < l2.length
    · go_enter Tryz.func4, Tryz.ntmps4
      go_wp2
      go_ret
      exact ⟨rfl, Kp.refl _ _⟩
    by_cases g3 : 2147483647 < p.size
    · go_enter Tryz.func4, Tryz.ntmps4
      go_wp2
      go_ret
      exact ⟨rfl, Kp.refl _ _⟩
    have g4 : 2147483647 < u.size := by omega
    go_enter Tryz.func4, Tryz.ntmps4
    go_wp2
    go_ret
    exact ⟨rfl, Kp.refl _ _⟩
  have g1 : l1.length ≤ 2147483647 := by omega
  have g2 : l2.length ≤ 2147483647 := by omega
  have g3 : p.size ≤ 2147483647 := by omega
  have g4 : u.size ≤ 2147483647 := by omega
  clear big b1 b2 b3 b4
  have HN := Lib.hid (Numeral_any z _ _ l1 l2 p w ⟨A1, c1, rfl, hA1⟩ ⟨A2, c2, rfl, hA2⟩ g1 g2 g3)
  have HT := Lib.hid hT
  clear hA1 hA2 hT
  go_enter Tryz.func4, Tryz.ntmps4
  go_wp2_with (go_at_call 15; refine HN.out.mono ?_)
  rintro e w1 ⟨tx, ok, rfl, hok, hk1⟩
  have HK1 := Lib.hid hk1
  have HOK := Lib.hid hok
  clear hk1 hok HN
  cases ok
  case false =>
    have HW := Lib.hid (wakes_any F w1 ((HT.out.kp HK1.out (fun _ f => f.elim)).up (HK1.out).size))
    have HKW := Lib.hid (HK1.out)
    go_wp2_with (go_at_call 8; refine HW.out.mono ?_)
    rintro e w3 ⟨rfl, hk3⟩
    have HK3 := Lib.hid (HKW.out.trans hk3)
    clear hk3
    go_wp2
    go_ret
    exact ⟨rfl, HK3.out⟩

  case true =>
  obtain ⟨n, hn, rfl, hnl⟩ := HOK.out rfl
  clear HOK
  have HNM := Lib.hid (named_any u a w1 (by omega))
  cases hnm : namedB u.data.toList a
  case false =>
    rw [hnm] at HNM
    go_wp2_with (go_at_call 7; refine HNM.out.mono ?_)
    rintro e w2 ⟨rfl, hw2⟩
    obtain rfl := hw2.symm
    have HW := Lib.hid (wakes_any F w1 ((HT.out.kp HK1.out (fun _ f => f.elim)).up (HK1.out).size))
    have HKW := Lib.hid (HK1.out)
    go_wp2_with (go_at_call 8; refine HW.out.mono ?_)
    rintro e w3 ⟨rfl, hk3⟩
    have HK3 := Lib.hid (HKW.out.trans hk3)
    clear hk3
    go_wp2
    go_ret
    exact ⟨rfl, HK3.out⟩

  case true =>
    rw [hnm] at HNM
    obtain ⟨cs, hcs, hN, hlen⟩ := named_nm hnm
    obtain rfl : u = bstr (encs cs) := by rw [← hcs]; rfl
    have hsc : ∀ c ∈ cs, Scal c := fun c hc => (hN.pl c hc).1
    clear hcs hnm
    have e1 : bstr (encs n.cs) ++ ⟨#[37]⟩ = bstr (encs (n.cs ++ [37])) := by rw [encs_app, ← bstr_add]; rfl
    have e2 : bstr (encs n.cs) ++ bstr (encs cs) = bstr (encs (n.cs ++ cs)) := by rw [encs_app, ← bstr_add]
    have z0 : (bstr (encs n.cs)).size = (encs n.cs).length := bstr_size _
    have z1 : (bstr (encs n.cs)).size + (⟨#[37]⟩ : ByteArray).size ≤ 9223372036854775807 := by rw [bstr_size]; show _ + 1 ≤ _; omega
    have z2 : (bstr (encs n.cs)).size + (bstr (encs cs)).size ≤ 9223372036854775807 := by rw [bstr_size, bstr_size]; omega
    have hkB : Kp (fun _ => False) w1 (w1.alloc (.cells #[.int .i64 30, .int .i64 0, .int .i64 0, .string (bstr (encs n.cs)), .bool false, .bool true, .int .i64 34, .int .i64 0, .int .i64 0, .string (bstr (encs (n.cs ++ [37]))), .bool false, .bool true, .int .i64 26, .int .i64 ((encs n.cs).length : Nat), .int .i64 0, .string (bstr (encs (n.cs ++ cs))), .bool false, .bool false] 25)) := (Kp.refl _ w1).alloc _
    have hOB : (w1.alloc (.cells #[.int .i64 30, .int .i64 0, .int .i64 0, .string (bstr (encs n.cs)), .bool false, .bool true, .int .i64 34, .int .i64 0, .int .i64 0, .string (bstr (encs (n.cs ++ [37]))), .bool false, .bool true, .int .i64 26, .int .i64 ((encs n.cs).length : Nat), .int .i64 0, .string (bstr (encs (n.cs ++ cs))), .bool false, .bool false] 25)).ownsRow w1.heap.size 25 6 (.slice (some ⟨w1.heap.size, 0, none⟩) 3 3) (ndsU n cs).length ((ndsU n cs).flatMap ND.cells) := World.ownsRow_lit w1 _ 3 (Nat.le_refl _) (by unfold maxLen; omega) rfl
    have HKB := Lib.hid (HK1.out.trans hkB)
    have HOB := Lib.hid hOB
    clear hkB hOB
    go_upto_region 7 with (first | (go_at_call 7; refine HNM.out.mono ?_; rintro e w2 ⟨rfl, hw2⟩; obtain rfl := hw2.symm))
    clear HNM z1 z2
    generalize w1.alloc (.cells #[.int .i64 30, .int .i64 0, .int .i64 0, .string (bstr (encs n.cs)), .bool false, .bool true, .int .i64 34, .int .i64 0, .int .i64 0, .string (bstr (encs (n.cs ++ [37]))), .bool false, .bool true, .int .i64 26, .int .i64 ((encs n.cs).length : Nat), .int .i64 0, .string (bstr (encs (n.cs ++ cs))), .bool false, .bool false] 25) = wB at *
    generalize hvB : Value.slice (some ⟨w1.heap.size, 0, none⟩) 3 3 = vB at *
    have hvB2 := hvB
    clear hvB e1 e2 z0

    have htE : TbG F wB.heap.size wB := (HT.out.kp HKB.out (fun _ f => f.elim)).up HKB.out.size
    have HA2 := Lib.hid (Decl_any F false ⟨#[107]⟩ [107] vB ((ndsU n cs).map tdOf) m a false wB htE (fun c hc => ((nm_k a).pl c hc).1) (by decide) (toksC_flat _ _ _ _ HOB.out (by have := show (ndsU n cs).length ≤ 3 from Nat.le_refl _; omega) (flt_u n cs) (ndok_u n cs hn hsc (by omega))) (tsok_u n cs false hn hsc (by omega)) (fun G => tokens_any F G _) (.inr (nocm_u n cs hn hsc)) (by have := cost_u n cs hn hsc; show 8 * 1 + _ + 2000 ≤ _; omega))
    clear htE
    go_wp2_with (go_at_call 13; refine HA2.out.mono ?_)
    rintro e wF ⟨rfl, hkF⟩
    have HB2 := Lib.hid (decl_any ⟨#[107]⟩ (ndsU n cs) _ vB wF (own_kp HOB.out hkF (fun _ _ f => f)) (by have := show (ndsU n cs).length ≤ 3 from Nat.le_refl _; omega) (flt_u n cs) (by simp [ndsU]))
    have HKF := Lib.hid (HKB.out.trans hkF)
    clear hkF
    go_wp2_with (go_at_call 14; refine HB2.out.mono ?_)
    rintro e wG ⟨v14, rfl, ho14, hkG⟩
    have HH2 := Lib.hid (holds_all ((declT m a false [107] ((ndsU n cs).map tdOf)).length + cs.length + 1) _ false _ (numbers_decl _ m a n cs hn hN (by omega) (by omega)) (by omega) (by have := declT_len m a false [107] _ (fun c hc => ((nm_k a).pl c hc).1) (tsok_u n cs false hn hsc (by omega)); have := cost_u n cs hn hsc; have : (encs [107]).length = 1 := (by decide); omega) _ v14 wG ho14)
    have HKG := Lib.hid (HKF.out.trans hkG)
    clear ho14 hkG
    go_wp2_with (go_at_call 10; refine HH2.out.mono ?_)
    rintro e wH ⟨rfl, hkH⟩
    have hkH' := HKG.out.trans hkH
    have HW := Lib.hid (wakes_any F wH ((HT.out.kp hkH' (fun _ f => f.elim)).up hkH'.size))
    have HKH := Lib.hid hkH'
    clear hkH hkH'
    go_wp2_with (go_at_call 8; refine HW.out.mono ?_)
    rintro e wI ⟨rfl, hkI⟩
    have HKI := Lib.hid (HKH.out.trans hkI)
    clear hkI
    go_wp2
    go_ret
    exact ⟨rfl, HKI.out⟩
end Go.Proofs.YtkaejhdncohgpaaGreatFmt
