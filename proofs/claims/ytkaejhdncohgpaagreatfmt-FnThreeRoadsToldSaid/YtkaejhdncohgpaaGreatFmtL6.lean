/- The reference's lexer: quoted. Condition: the text has at most 2^47 bytes. -/
import Derived.Test.YtkaejhdncohgpaaGreatFmtM4
import Derived.Test.YtkaejhdncohgpaaGreatFmtM1
namespace Go.Proofs.YtkaejhdncohgpaaGreatFmt
set_option linter.all false
open Go.RowKit
set_option maxRecDepth 100000

/-- A token as a value. -/
def tokV (k st en un : Int) (id : Bool) (tx : List UInt8) : Value := .agg #[.int .i64 k, .int .i64 st, .int .i64 en, .int .i64 un, .bool id, .string (bstr tx)]


def QuoR (g : Nat) (s : ByteArray) (v : Value) (w0 : World) (qt : Int) (R : Int × List UInt8 × Its × Bool) (k : Nat) (a : Value) (wr : World) : Prop :=
  ∃ (q : Nat) (out : List UInt8) (o : Bool), a = .string (bstr out) ∧ q ≤ s.size ∧ out.length + 4 * (lft s q).length ≤ 4 * s.size ∧ Hid (R = quotM k qt (lft s q) out o) ∧ Hid ((lft s q).length < k) ∧ Hid (Lx wr g s q v o) ∧ Hid (Kp (fun k => k = g) w0 wr)

/-- The cells of a token's variable. -/
theorem six {w : World} {b t : Nat} {a0 a1 a2 a3 a4 a5 : Value} (h : w.heap[b]? = some (.cells #[a0, a1, a2, a3, a4, a5] t (0, 0))) :
    (w.cell? ⟨b, 0, none⟩ = some a0 ∧ w.cell? ⟨b, 1, none⟩ = some a1 ∧ w.cell? ⟨b, 2, none⟩ = some a2 ∧ w.cell? ⟨b, 3, none⟩ = some a3 ∧ w.cell? ⟨b, 4, none⟩ = some a4 ∧ w.cell? ⟨b, 5, none⟩ = some a5) ∧
    w.frozen? ⟨b, 0, none⟩ = false ∧ w.frozen? ⟨b, 1, none⟩ = false ∧ w.frozen? ⟨b, 2, none⟩ = false ∧ w.frozen? ⟨b, 3, none⟩ = false ∧ w.frozen? ⟨b, 4, none⟩ = false ∧ w.frozen? ⟨b, 5, none⟩ = false := by
  simp [World.cell?, World.frozen?, h]
abbrev tok0 : Obj := .cells #[.int .i64 0, .int .i64 0, .int .i64 0, .int .i64 0, .bool false, .string ⟨#[]⟩] 49 (0, 0)
theorem alloc_tok (w : World) : (w.alloc tok0).heap[w.heap.size]? = some tok0 := heap_alloc_new w _

def put6 (w : World) (b : Nat) (a0 a1 a2 a3 a4 a5 : Value) : World :=
  (((((w.setCell ⟨b, 0, none⟩ a0).setCell ⟨b, 1, none⟩ a1).setCell ⟨b, 2, none⟩ a2).setCell ⟨b, 3, none⟩ a3).setCell ⟨b, 4, none⟩ a4).setCell ⟨b, 5, none⟩ a5
theorem put6_kp (w : World) (b : Nat) (a0 a1 a2 a3 a4 a5 : Value) : Kp (fun k => k = b) w (put6 w b a0 a1 a2 a3 a4 a5) :=
  ((((((Kp.refl (fun k => k = b) w).cell 0 a0).cell 1 a1).cell 2 a2).cell 3 a3).cell 4 a4).cell 5 a5
theorem bstr_nil : bstr [] = ⟨#[]⟩ := rfl
/-- A lexer behind the store of a token into a block of the call's own. -/
theorem Lo.put6 {g : Nat} {s : ByteArray} {p : Nat} {v : Value} {w w1 w2 : World} {l : Its} {o : Bool} {b : Nat} (hp : p ≤ s.size) (hl : lft s p = l) (hx : Lx w2 g s p v o) (ha : Kp (fun k => k = g) w w1) (hk : Kp (fun k => k = g) w1 w2) (hg : g < w.heap.size) (hb : w.heap.size ≤ b) (a0 a1 a2 a3 a4 a5 : Value) :
    Lo g s v w l o (put6 w2 b a0 a1 a2 a3 a4 a5) := by
  refine Lo.mk p hp hl (hx.kp (put6_kp w2 b a0 a1 a2 a3 a4 a5) (fun e => by omega)) ?_
  exact (ha.trans hk).trans' (put6_kp w2 b a0 a1 a2 a3 a4 a5) (fun i hi h => by omega)

set_option maxHeartbeats 1000000 in
theorem quoted_core (g : Nat) (s : ByteArray) (p : Nat) (v : Value) (op : Bool) (K : Nat) (w : World) (h : Lx w g s p v op) (hs : s.size ≤ 140737488355328) (hp : p ≤ s.size) (hK : (lft s p).length < K)
    (k : Int) (tx : List UInt8) (l' : Its) (o' : Bool) (HR : Hid ((k, tx, l', o') = quotM K (pk (lft s p) 0) (lft s p).tail [] op)) :
    Calls Tryz.prog 60 #[.pointer (some ⟨g, 0, none⟩)] w fun e w' => e = .returned (tokV k 0 0 0 false tx) ∧ Lo g s v w l' o' w' := by
  have hgl := h.lt
  have hrb := alloc_tok w
  have hka := (Kp.refl (fun k => k = g) w).alloc tok0
  have hx1 := h.kp ((Kp.refl (fun _ => False) w).alloc tok0) (fun h => h)
  have hsz : w.heap.size < (w.alloc tok0).heap.size := (Array.getElem?_eq_some_iff.1 hrb).1
  go_enter Tryz.func60, Tryz.ntmps60
  go_wp2_with fail
  generalize w.alloc tok0 = w1 at *
  refine (take_any g s p v op _ hx1 hs hp).mono ?_
  rintro e w2 ⟨rfl, p1, hp1, hl1, hx2, hk2⟩
  have hll := lft_len s p1 hp1
  have hlt : (lft s p1).length < K := by rw [hl1]; have := tail_le (lft s p); omega
  have HR1 : Hid ((k, tx, l', o') = quotM K (pk (lft s p) 0) (lft s p1) [] op) := Lib.hid (by rw [hl1]; exact HR.out)
  have HX2 := Lib.hid hx2
  have HK2 := Lib.hid hk2
  have HA := Lib.hid hka
  have HB := Lib.hid hrb
  have HS := Lib.hid hsz
  have HLT := Lib.hid hlt
  clear hl1 hx2 hk2 hx1 h hlt hka hrb hsz hK
  have hL : (lft s p1).length ≤ s.size := by omega
  clear hll
  go_wp2
  go_loopg [4] K (fun n a wr => QuoR g s v w1 (pk (lft s p) 0) (k, tx, l', o') n a wr)
  case atStart => exact ⟨p1, [], op, rfl, hp1, by simp; omega, HR1, HLT, HX2, HK2⟩
  case round =>
    obtain ⟨q, out, o, rfl, hq, hlen, HM, HN, HX, HK⟩ := hrel
    have hr := pk_range s q 0 hq
    obtain ⟨r0, r1⟩ := hr
    have hwb : wr.heap[w.heap.size]? = some tok0 := by rw [HK.out.block _ HS.out (by omega)]; exact HB.out
    have six' := six hwb
    obtain ⟨⟨c0, c1, c2, c3, c4, c5⟩, z0, z1, z2, z3, z4, z5⟩ := six'
    clear hwb
    cases gk with
    | zero => exact absurd HN.out (by omega)
    | succ gk =>
      by_cases e1 : pk (lft s q) 0 = pk (lft s p) 0
      · have b1 : (pk (lft s q) 0 == pk (lft s p) 0) = true := by simp [e1]
        have E1 := Lib.hid e1
        clear e1
        go_wp2_with (first | (go_at_call 56; (with_reducible refine (peek0_any g s q v o _ HX.out hs hq).mono ?_); rintro e w9 ⟨rfl, rfl⟩) | (go_at_call 56; (with_reducible refine (peek1_any g s q v o _ HX.out hs hq).mono ?_); rintro e w9 ⟨rfl, rfl⟩) | (go_at_call 87; refine (isNewline_any _ _).mono ?_; rintro e w9 ⟨rfl, rfl⟩))
        refine (take_any g s q v o _ HX.out hs hq).mono ?_
        rintro e w4 ⟨rfl, p2, hp2, hl2, hx2, hk2⟩
        have HL2 := Lib.hid hl2
        have HX2 := Lib.hid hx2
        have HK2 := Lib.hid (HK.out.trans hk2)
        clear hl2 hx2 hk2
        clear c0 c1 c2 c3 c4 c5 z0 z1 z2 z3 z4 z5
        have hwb : w4.heap[w.heap.size]? = some tok0 := by rw [HK2.out.block _ HS.out (by omega)]; exact HB.out
        have six' := six hwb
        obtain ⟨⟨c0, c1, c2, c3, c4, c5⟩, z0, z1, z2, z3, z4, z5⟩ := six'
        clear hwb
        go_wp2
        have hm := HM.out
        rw [quotM, if_pos E1.out] at hm
        simp only [Prod.mk.injEq] at hm
        exact bodyPost_ret (v := tokV 36 0 0 0 false out) (by simp [results, Tryz.results60, go_sem, tokV, bstr_nil, c0, c1, c2, c3, c4, c5]) rfl ⟨by rw [hm.1, hm.2.1], by rw [hm.2.2.1, hm.2.2.2]; exact Lo.put6 hp2 HL2.out HX2.out HA.out HK2.out hgl (Nat.le_refl _) _ _ _ _ _ _⟩
      have b1 : (pk (lft s q) 0 == pk (lft s p) 0) = false := by simp [e1]
      have E1 := Lib.hid e1
      clear e1
      by_cases e2 : pk (lft s q) 0 = -1
      · have b2 : (pk (lft s q) 0 == -1) = true := by simp [e2]
        have E2 := Lib.hid e2
        clear e2
        have d3 := HX.out.f.2.2.2.1
        have y3 := HX.out.f.2.2.2.2.2.2
        go_wp2_with (first | (go_at_call 56; (with_reducible refine (peek0_any g s q v o _ HX.out hs hq).mono ?_); rintro e w9 ⟨rfl, rfl⟩) | (go_at_call 56; (with_reducible refine (peek1_any g s q v o _ HX.out hs hq).mono ?_); rintro e w9 ⟨rfl, rfl⟩) | (go_at_call 87; refine (isNewline_any _ _).mono ?_; rintro e w9 ⟨rfl, rfl⟩))
        have hm := HM.out
        rw [quotM, if_neg E1.out, if_pos E2.out] at hm
        simp only [Prod.mk.injEq] at hm
        exact bodyPost_ret (v := tokV 36 0 0 0 false out) (by simp [results, Tryz.results60, go_sem, tokV, bstr_nil, c0, c1, c2, c3, c4, c5]) rfl ⟨by rw [hm.1, hm.2.1], by rw [hm.2.2.1, hm.2.2.2]; exact Lo.put6 hq rfl (HX.out.opn true) HA.out (HK.out.cell 3 (.bool true)) hgl (Nat.le_refl _) _ _ _ _ _ _⟩
      have b2 : (pk (lft s q) 0 == -1) = false := by simp [e2]
      have E2 := Lib.hid e2
      clear e2
      cases e3 : isNl (pk (lft s q) 0) with
      | true =>
        have E3 := Lib.hid e3
        go_wp2_with (first | (go_at_call 56; (with_reducible refine (peek0_any g s q v o _ HX.out hs hq).mono ?_); rintro e w9 ⟨rfl, rfl⟩) | (go_at_call 56; (with_reducible refine (peek1_any g s q v o _ HX.out hs hq).mono ?_); rintro e w9 ⟨rfl, rfl⟩) | (go_at_call 87; refine (isNewline_any _ _).mono ?_; rintro e w9 ⟨rfl, rfl⟩))
        have hm := HM.out
        rw [quotM, if_neg E1.out, if_neg E2.out, if_pos E3.out] at hm
        simp only [Prod.mk.injEq] at hm
        exact bodyPost_ret (v := tokV 2 0 0 0 false []) (by simp [results, Tryz.results60, go_sem, tokV, bstr_nil, c0, c1, c2, c3, c4, c5]) rfl ⟨by rw [hm.1, hm.2.1], by rw [hm.2.2.1, hm.2.2.2]; exact Lo.put6 hq rfl HX.out HA.out HK.out hgl (Nat.le_refl _) _ _ _ _ _ _⟩
      | false =>
        have E3 := Lib.hid e3
        have hne : pk (lft s q) 0 ≠ -1 := E2.out
        have htl := tail_lt _ hne
        clear hne
        by_cases e4 : pk (lft s q) 0 = 92
        · have b4 : (pk (lft s q) 0 == 92) = true := by simp [e4]
          have E4 := Lib.hid e4
          clear e4
          by_cases e5 : pk (lft s q) 1 = -1
          · have b5 : (pk (lft s q) 1 == -1) = true := by simp [e5]
            have E5 := Lib.hid e5
            clear e5
            go_wp2_with (first | (go_at_call 56; (with_reducible refine (peek0_any g s q v o _ HX.out hs hq).mono ?_); rintro e w9 ⟨rfl, rfl⟩) | (go_at_call 56; (with_reducible refine (peek1_any g s q v o _ HX.out hs hq).mono ?_); rintro e w9 ⟨rfl, rfl⟩) | (go_at_call 87; refine (isNewline_any _ _).mono ?_; rintro e w9 ⟨rfl, rfl⟩))
            refine (take_any g s q v o _ HX.out hs hq).mono ?_
            rintro e w4 ⟨rfl, p2, hp2, hl2, hx2, hk2⟩
            have HL2 := Lib.hid hl2
            have HX2 := Lib.hid hx2
            have HK2 := Lib.hid (HK.out.trans hk2)
            clear hl2 hx2 hk2
            go_wp2
            go_roundg gk
            case rel => exact ⟨p2, out, o, rfl, hp2, by rw [HL2.out]; omega, Lib.hid (by rw [HM.out, quotM, if_neg E1.out, if_neg E2.out, if_neg (by rw [E3.out]; simp), if_pos E4.out, if_pos E5.out, HL2.out]), Lib.hid (by rw [HL2.out]; have := HN.out; omega), HX2, HK2⟩
            case measure => omega
          · have b5 : (pk (lft s q) 1 == -1) = false := by simp [e5]
            have E5 := Lib.hid e5
            clear e5
            cases e6 : isNl (pk (lft s q) 1) with
            | true =>
              have E6 := Lib.hid e6
              go_wp2_with (first | (go_at_call 56; (with_reducible refine (peek0_any g s q v o _ HX.out hs hq).mono ?_); rintro e w9 ⟨rfl, rfl⟩) | (go_at_call 56; (with_reducible refine (peek1_any g s q v o _ HX.out hs hq).mono ?_); rintro e w9 ⟨rfl, rfl⟩) | (go_at_call 87; refine (isNewline_any _ _).mono ?_; rintro e w9 ⟨rfl, rfl⟩))
              refine (take_any g s q v o _ HX.out hs hq).mono ?_
              rintro e w4 ⟨rfl, p2, hp2, hl2, hx2, hk2⟩
              have HL2 := Lib.hid hl2
              have HX2 := Lib.hid hx2
              have HK2 := Lib.hid (HK.out.trans hk2)
              clear hl2 hx2 hk2
              go_wp2_with fail
              refine (newline_any g s p2 v o _ HX2.out hs hp2).mono ?_
              rintro e w5 ⟨rfl, p3, hp3, hl3, hx3, hk3⟩
              rw [HL2.out] at hl3
              have hnl := newlM_le (lft s q).tail
              have HL3 := Lib.hid hl3
              have HX3 := Lib.hid hx3
              have HK3 := Lib.hid (HK2.out.trans hk3)
              clear hl3 hx3 hk3
              go_wp2
              go_roundg gk
              case rel => exact ⟨p3, out, o, rfl, hp3, by rw [HL3.out]; omega, Lib.hid (by rw [HM.out, quotM, if_neg E1.out, if_neg E2.out, if_neg (by rw [E3.out]; simp), if_pos E4.out, if_neg E5.out, if_pos E6.out, HL3.out]), Lib.hid (by rw [HL3.out]; have := HN.out; omega), HX3, HK3⟩
              case measure => omega
            | false =>
              have E6 := Lib.hid e6
              go_wp2_with (first | (go_at_call 56; (with_reducible refine (peek0_any g s q v o _ HX.out hs hq).mono ?_); rintro e w9 ⟨rfl, rfl⟩) | (go_at_call 56; (with_reducible refine (peek1_any g s q v o _ HX.out hs hq).mono ?_); rintro e w9 ⟨rfl, rfl⟩) | (go_at_call 87; refine (isNewline_any _ _).mono ?_; rintro e w9 ⟨rfl, rfl⟩))
              refine (take_any g s q v o _ HX.out hs hq).mono ?_
              rintro e w4 ⟨rfl, p2, hp2, hl2, hx2, hk2⟩
              have HL2 := Lib.hid hl2
              have HX2 := Lib.hid hx2
              have HK2 := Lib.hid (HK.out.trans hk2)
              clear hl2 hx2 hk2
              have her := escM_range s p2 hp2
              have hel := escM_le (lft s p2)
              rw [HL2.out] at her hel
              obtain ⟨e0, e1⟩ := her
              go_wp2_with fail
              refine (escape_any g s p2 v o _ HX2.out hs hp2).mono ?_
              rintro e w5 ⟨rfl, p3, hp3, hl3, hx3, hk3⟩
              rw [HL2.out] at hl3 hx3 ⊢
              have HL3 := Lib.hid hl3
              have HX3 := Lib.hid hx3
              have HK3 := Lib.hid (HK2.out.trans hk3)
              clear hl3 hx3 hk3
              have hen := encd_le4 (escM (lft s q).tail).1
              go_wp2_with fail
              refine (encoded_b _ _ e0 e1).mono ?_
              rintro e w6 ⟨rfl, hk6⟩
              have HX6 := Lib.hid (HX3.out.kp hk6 (fun h => h))
              have HK6 := Lib.hid (HK3.out.trans' hk6 (fun _ _ h => h.elim))
              clear hk6
              have hsz : (bstr out).size + (bstr (encd (escM (lft s q).tail).1)).size ≤ 9223372036854775807 := by rw [bstr_size, bstr_size]; omega
              go_wp2
              go_roundg gk
              case rel => exact ⟨p3, out ++ encd (escM (lft s q).tail).1, _, by rw [bstr_add], hp3, by rw [HL3.out, List.length_append]; omega, Lib.hid (by rw [HM.out, quotM, if_neg E1.out, if_neg E2.out, if_neg (by rw [E3.out]; simp), if_pos E4.out, if_neg E5.out, if_neg (by rw [E6.out]; simp), HL3.out]), Lib.hid (by rw [HL3.out]; have := HN.out; omega), HX6, HK6⟩
              case measure => omega
        · have b4 : (pk (lft s q) 0 == 92) = false := by simp [e4]
          have E4 := Lib.hid e4
          clear e4
          go_wp2_with (first | (go_at_call 56; (with_reducible refine (peek0_any g s q v o _ HX.out hs hq).mono ?_); rintro e w9 ⟨rfl, rfl⟩) | (go_at_call 56; (with_reducible refine (peek1_any g s q v o _ HX.out hs hq).mono ?_); rintro e w9 ⟨rfl, rfl⟩) | (go_at_call 87; refine (isNewline_any _ _).mono ?_; rintro e w9 ⟨rfl, rfl⟩))
          refine (take_any g s q v o _ HX.out hs hq).mono ?_
          rintro e w4 ⟨rfl, p2, hp2, hl2, hx2, hk2⟩
          have HL2 := Lib.hid hl2
          have HX2 := Lib.hid hx2
          have HK2 := Lib.hid (HK.out.trans hk2)
          clear hl2 hx2 hk2
          have hen := encd_le4 (pk (lft s q) 0)
          go_wp2_with fail
          refine (encoded_b _ _ (by omega) r1).mono ?_
          rintro e w6 ⟨rfl, hk6⟩
          have HX6 := Lib.hid (HX2.out.kp hk6 (fun h => h))
          have HK6 := Lib.hid (HK2.out.trans' hk6 (fun _ _ h => h.elim))
          clear hk6
          have hsz : (bstr out).size + (bstr (encd (pk (lft s q) 0))).size ≤ 9223372036854775807 := by rw [bstr_size, bstr_size]; omega
          go_wp2
          go_roundg gk
          case rel => exact ⟨p2, out ++ encd (pk (lft s q) 0), o, by rw [bstr_add], hp2, by rw [HL2.out, List.length_append]; omega, Lib.hid (by rw [HM.out, quotM, if_neg E1.out, if_neg E2.out, if_neg (by rw [E3.out]; simp), if_neg E4.out, HL2.out]), Lib.hid (by rw [HL2.out]; have := HN.out; omega), HX6, HK6⟩
          case measure => omega

theorem quoted_any (g : Nat) (s : ByteArray) (p : Nat) (v : Value) (op : Bool) (K : Nat) (w : World) (h : Lx w g s p v op) (hs : s.size ≤ 140737488355328) (hp : p ≤ s.size) (hK : (lft s p).length < K) :
    Calls Tryz.prog 60 #[.pointer (some ⟨g, 0, none⟩)] w fun e w' => e = .returned (tokV (quotM K (pk (lft s p) 0) (lft s p).tail [] op).1 0 0 0 false (quotM K (pk (lft s p) 0) (lft s p).tail [] op).2.1) ∧ Lo g s v w (quotM K (pk (lft s p) 0) (lft s p).tail [] op).2.2.1 (quotM K (pk (lft s p) 0) (lft s p).tail [] op).2.2.2 w' :=
  quoted_core g s p v op K w h hs hp hK _ _ _ _ rfl

end Go.Proofs.YtkaejhdncohgpaaGreatFmt
