/- The reference's lexer, whatever the text: addresses; The reference's lexer, whatever the text: names and what belongs to them, signs; The reference's lexer, whatever the text: signs, and next; The reference's lexer, whatever the text: next, comment; The reference's lexer, whatever the text: comments; The reference's lexer, whatever the text: Tokens, and lone. -/
import Derived.Test.YtkaejhdncohgpaaGreatFmtL10
import Derived.Test.YtkaejhdncohgpaaGreatFmtL9
import Derived.Test.YtkaejhdncohgpaaGreatFmtLA
import Derived.Deep.RegionHeld3
import Derived.Deep.RegionLaw
import Derived.Deep.AppendLies
/- The reference's lexer, whatever the text: addresses. Condition: the text has at most 2^40 bytes. -/
namespace Go.Proofs.YtkaejhdncohgpaaGreatFmt
set_option linter.all false
open Go.RowKit
set_option maxRecDepth 100000
set_option maxHeartbeats 1000000

/-- A token, whichever; what is left is no longer. -/
def TotR (g : Nat) (s : ByteArray) (v : Value) (w : World) (l0 : Its) (e : Ending) (w' : World) : Prop := ∃ k u id tx l' o', e = .returned (tokV k 0 0 u id tx) ∧ Lo g s v w l' o' w' ∧ l'.length ≤ l0.length ∧ tx.length ≤ 4 * s.size
theorem badURL_lo (g : Nat) (s : ByteArray) (v : Value) (op : Bool) (K : Nat) (w : World) (l0 : Its) (h : At g s v w l0 op w) (hs : s.size ≤ 140737488355328) (hK : l0.length < K) :
    Calls Tryz.prog 123 #[.pointer (some ⟨g, 0, none⟩)] w fun e w' => TotR g s v w l0 e w' := by
  have hgl := h.gl
  have HA0 := Lib.hid (h.new tok0)
  have HB := Lib.hid (alloc_tok w)
  have HKA := Lib.hid ((Kp.refl (fun k => k = g) w).alloc tok0)
  have HS := Lib.hid (Array.getElem?_eq_some_iff.1 (alloc_tok w)).1
  have HKK := Lib.hid hK
  clear h hK
  go_enter Tryz.func123, Tryz.ntmps123
  go_wp2
  generalize w.alloc tok0 = w1 at *
  go_loopg [] K (fun n wr => ∃ l o, Hid (At g s v w1 l o wr) ∧ Hid (l.length < n) ∧ Hid (l.length ≤ l0.length))
  case atStart => exact ⟨l0, op, HA0, HKK, Lib.hid (Nat.le_refl _)⟩
  case round =>
    obtain ⟨l, o, HA, HN, HL⟩ := hrel
    cases gk with
    | zero => exact absurd HN.out (by omega)
    | succ gk =>
      have hnb : wr.heap[w.heap.size]? = some tok0 := by rw [HA.out.block HS.out (by omega)]; exact HB.out
      have HNB := Lib.hid hnb
      clear hnb
      go_wp2_with fail
      refine (take_at HA.out hs).mono ?_
      rintro e w4 ⟨rfl, hA4⟩
      have HA4 := Lib.hid hA4
      have hnb : w4.heap[w.heap.size]? = some tok0 := by rw [hA4.block HS.out (by omega)]; exact HB.out
      obtain ⟨⟨c0, c1, c2, c3, c4, c5⟩, z0, z1, z2, z3, z4, z5⟩ := six hnb
      have HTL := Lib.hid (tail_le l)
      clear hA4 hnb
      by_cases e1 : pk l 0 = 41
      · have b1 : (pk l 0 == 41) = true := by simp [e1]
        clear e1
        go_wp2
        exact bodyPost_ret (v := tokV 3 0 0 0 false []) (by simp [results, Tryz.results123, go_sem, tokV, bstr_nil, c0, c1, c2, c3, c4, c5]) rfl ⟨3, 0, false, [], l.tail, o, rfl, HA4.out.put6 HKA.out hgl (Nat.le_refl _) _ _ _ _ _ _, by have := HTL.out; have := HL.out; omega, by simp⟩
      have b1 : (pk l 0 == 41) = false := by simp [e1]
      clear e1
      by_cases e2 : pk l 0 = -1
      · have b2 : (pk l 0 == -1) = true := by simp [e2]
        obtain ⟨f1, f3, y1, y3, -⟩ := HA4.out.f
        clear e2
        go_wp2
        exact bodyPost_ret (v := tokV 3 0 0 0 false []) (by simp [results, Tryz.results123, go_sem, tokV, bstr_nil, c0, c1, c2, c3, c4, c5]) rfl ⟨3, 0, false, [], l.tail, true, rfl, (HA4.out.opn true).put6 HKA.out hgl (Nat.le_refl _) _ _ _ _ _ _, by have := HTL.out; have := HL.out; omega, by simp⟩
      have b2 : (pk l 0 == -1) = false := by simp [e2]
      have HLT := Lib.hid (tail_lt l e2)
      clear e2 c0 c1 c2 c3 c4 c5 z0 z1 z2 z3 z4 z5
      cases hes : escs (pk l 0) (pk l.tail 0)
      · have HES := Lib.hid hes
        clear hes
        go_wp2_with (first | (go_at_call 56; (with_reducible refine (peek0_at HA4.out hs).mono ?_); rintro e w9 ⟨rfl, rfl⟩) | (go_at_call 62; refine (escapes_any _ _ _).mono ?_; rw [HES.out]; rintro e w9 ⟨rfl, rfl⟩))
        go_roundg gk
        case rel => exact ⟨l.tail, o, HA4, Lib.hid (by have := HLT.out; have := HN.out; omega), Lib.hid (by have := HLT.out; have := HL.out; omega)⟩
        case measure => omega
      · have HES := Lib.hid hes
        clear hes
        go_wp2_with (first | (go_at_call 56; (with_reducible refine (peek0_at HA4.out hs).mono ?_); rintro e w9 ⟨rfl, rfl⟩) | (go_at_call 62; refine (escapes_any _ _ _).mono ?_; rw [HES.out]; rintro e w9 ⟨rfl, rfl⟩))
        refine (escape_at HA4.out hs).mono ?_
        rintro e w5 ⟨rfl, hA5⟩
        have HA5 := Lib.hid hA5
        clear hA5
        go_wp2
        go_roundg gk
        case rel => exact ⟨_, _, HA5, Lib.hid (by have := escM_le l.tail; have := HLT.out; have := HN.out; omega), Lib.hid (by have := escM_le l.tail; have := HLT.out; have := HL.out; omega)⟩
        case measure => omega

/-- The loop of an address. -/
structure UrI (g : Nat) (s : ByteArray) (v : Value) (w1 : World) (l0 : Its) (n : Nat) (a : Value) (wr : World) (l : Its) (o : Bool) (out : List UInt8) : Prop where
  a : a = .string (bstr out)
  ha : At g s v w1 l o wr
  lt : l.length < n
  le : l.length ≤ l0.length
  ln : out.length + 4 * l.length ≤ 4 * s.size
theorem TotR.up {g : Nat} {s : ByteArray} {v : Value} {w w1 : World} {l0 l1 : Its} {e : Ending} {w' : World} {o : Bool} (h : TotR g s v w1 l1 e w') (hA : At g s v w l1 o w1) (hl : l1.length ≤ l0.length) : TotR g s v w l0 e w' := by
  obtain ⟨k, u, id, tx, l', o', h1, h2, h3, h4⟩ := h
  exact ⟨k, u, id, tx, l', o', h1, (hA.step h2).lo, by omega, h4⟩

theorem At.kpF {g : Nat} {s : ByteArray} {v : Value} {w0 wr w' : World} {l : Its} {o : Bool} (h : At g s v w0 l o wr) (hk : Kp (fun _ => False) wr w') : At g s v w0 l o w' := by
  obtain ⟨q, h1, h2, h3, h4⟩ := h
  exact ⟨q, h1, h2, Lib.hid (h3.out.kp hk (fun h => h)), Lib.hid (h4.out.trans (hk.mono fun _ _ f => f.elim))⟩

theorem url_lo (g : Nat) (s : ByteArray) (v : Value) (op : Bool) (K : Nat) (w : World) (l0 : Its) (h : At g s v w l0 op w) (hs : s.size ≤ 1099511627776) (hK : l0.length < K) :
    Calls Tryz.prog 92 #[.pointer (some ⟨g, 0, none⟩)] w fun e w' => TotR g s v w l0 e w' := by
  have hss : s.size ≤ 140737488355328 := by omega
  have hgl := h.gl
  have HA0 := Lib.hid (h.new tok0)
  have HB := Lib.hid (alloc_tok w)
  have HKA := Lib.hid ((Kp.refl (fun k => k = g) w).alloc tok0)
  have HS := Lib.hid (Array.getElem?_eq_some_iff.1 (alloc_tok w)).1
  have HKK := Lib.hid hK
  have HLN := Lib.hid h.len
  clear h hK
  go_enter Tryz.func92, Tryz.ntmps92
  go_wp2
  generalize w.alloc tok0 = w1 at *
  go_loopg [3] K (fun n a wr => ∃ l o out, UrI g s v w1 l0 n a wr l o out)
  case atStart => exact ⟨l0, op, [], rfl, HA0.out, HKK.out, Nat.le_refl _, by have := HLN.out; simp; omega⟩
  case round =>
    obtain ⟨l, o, out, hI⟩ := hrel
    have qa := hI.a
    subst qa
    have hlt := hI.lt
    have hln := hI.ln
    have hle := hI.le
    have HA := Lib.hid hI.ha
    have hnb : wr.heap[w.heap.size]? = some tok0 := by rw [HA.out.block HS.out (by omega)]; exact HB.out
    obtain ⟨⟨c0, c1, c2, c3, c4, c5⟩, z0, z1, z2, z3, z4, z5⟩ := six hnb
    have hrg := HA.out.rng 0
    clear hI hnb
    cases gk with
    | zero => omega
    | succ gk =>
      have HTL := Lib.hid (tail_le l)
      have HLT := Lib.hid hlt
      have HLN2 := Lib.hid hln
      have HLE := Lib.hid hle
      clear hlt hln hle
      by_cases e1 : pk l 0 = 41
      · have b1 : (pk l 0 == 41) = true := by simp [e1]
        clear e1 hrg
        go_wp2_with (go_at_call 56; (with_reducible refine (peek0_at HA.out hss).mono ?_); rintro e w9 ⟨rfl, rfl⟩)
        refine (take_at HA.out hss).mono ?_
        rintro e w4 ⟨rfl, hA4⟩
        have HA4 := Lib.hid hA4
        clear c0 c1 c2 c3 c4 c5 z0 z1 z2 z3 z4 z5
        have hnb : w4.heap[w.heap.size]? = some tok0 := by rw [hA4.block HS.out (by omega)]; exact HB.out
        obtain ⟨⟨c0, c1, c2, c3, c4, c5⟩, z0, z1, z2, z3, z4, z5⟩ := six hnb
        clear hA4 hnb
        go_wp2
        exact bodyPost_ret (v := tokV 37 0 0 0 false out) (by simp [results, Tryz.results92, go_sem, tokV, bstr_nil, c0, c1, c2, c3, c4, c5]) rfl ⟨37, 0, false, out, l.tail, o, rfl, HA4.out.put6 HKA.out hgl (Nat.le_refl _) _ _ _ _ _ _, by have := HTL.out; have := HLE.out; omega, by have := HLN2.out; omega⟩
      have b1 : (pk l 0 == 41) = false := by simp [e1]
      by_cases e2 : pk l 0 = -1
      · have b2 : (pk l 0 == -1) = true := by simp [e2]
        obtain ⟨f1, f3, y1, y3, -⟩ := HA.out.f
        clear e1 e2 hrg
        go_wp2_with (go_at_call 56; (with_reducible refine (peek0_at HA.out hss).mono ?_); rintro e w9 ⟨rfl, rfl⟩)
        exact bodyPost_ret (v := tokV 37 0 0 0 false out) (by simp [results, Tryz.results92, go_sem, tokV, bstr_nil, c0, c1, c2, c3, c4, c5]) rfl ⟨37, 0, false, out, l, true, rfl, (HA.out.opn true).put6 HKA.out hgl (Nat.le_refl _) _ _ _ _ _ _, HLE.out, by have := HLN2.out; omega⟩
      have b2 : (pk l 0 == -1) = false := by simp [e2]
      have HTLT := Lib.hid (tail_lt l e2)
      clear e1
      cases hsp : isSp (pk l 0)
      case true =>
        have HSP := Lib.hid hsp
        have hy := spM_yes l hsp
        have HSPL : Hid ((spM l).length < l.length) := Lib.hid (by rw [hy.1]; have := spM_le l.tail; have := HTLT.out; omega)
        clear hsp hy hrg e2
        go_wp2_with (first | (go_at_call 56; (with_reducible refine (peek0_at HA.out hss).mono ?_); rintro e w9 ⟨rfl, rfl⟩) | (go_at_call 58; refine (isSpace_any _ _).mono ?_; rw [HSP.out]; rintro e w9 ⟨rfl, rfl⟩))
        refine (spaces_at HA.out hss).mono ?_
        rintro e w4 ⟨rfl, hA4⟩
        have HA4 := Lib.hid hA4
        clear c0 c1 c2 c3 c4 c5 z0 z1 z2 z3 z4 z5
        have hnb : w4.heap[w.heap.size]? = some tok0 := by rw [hA4.block HS.out (by omega)]; exact HB.out
        have HNB := Lib.hid hnb
        clear hA4 hnb
        by_cases q : pk (spM l) 0 = 41 ∨ pk (spM l) 0 = -1
        · have HR : Hid (UrI g s v w1 l0 gk (.string (bstr out)) w4 (spM l) o out) := Lib.hid ⟨rfl, HA4.out, by have := HSPL.out; have := HLT.out; omega, by have := HSPL.out; have := HLE.out; omega, by have := HSPL.out; have := HLN2.out; omega⟩
          by_cases q1 : pk (spM l) 0 = 41
          · have d1 : (pk (spM l) 0 != 41) = false := by simp [q1]
            clear q q1
            go_wp2_with (go_at_call 56; (with_reducible refine (peek0_at HA4.out hss).mono ?_); rintro e w9 ⟨rfl, rfl⟩)
            go_roundg gk
            case rel => exact ⟨_, _, _, HR.out⟩
            case measure => omega
          · have d1 : (pk (spM l) 0 != 41) = true := by simp [q1]
            have d2 : (pk (spM l) 0 != -1) = false := by simp; omega
            clear q q1
            go_wp2_with (go_at_call 56; (with_reducible refine (peek0_at HA4.out hss).mono ?_); rintro e w9 ⟨rfl, rfl⟩)
            go_roundg gk
            case rel => exact ⟨_, _, _, HR.out⟩
            case measure => omega
        · have d1 : (pk (spM l) 0 != 41) = true := by simp; omega
          have d2 : (pk (spM l) 0 != -1) = true := by simp; omega
          clear q
          go_wp2_with (go_at_call 56; (with_reducible refine (peek0_at HA4.out hss).mono ?_); rintro e w9 ⟨rfl, rfl⟩)
          have HLEN := HSPL
          refine (badURL_lo g s v o K _ (spM l) HA4.out.anew hss (by have := HLEN.out; have := HKK.out; have := HLE.out; have := HSPL.out; omega)).mono ?_
          rintro e w5 ⟨k5, u5, id5, tx5, l5, o5, rfl, hlo5, hle5, htx5⟩
          have HA5 := Lib.hid ((HA4.out.step hlo5))
          have HE5 := Lib.hid hle5
          have HX5 := Lib.hid htx5
          clear hlo5 hle5 htx5 
          unfold tokV
          have hnb : w5.heap[w.heap.size]? = some tok0 := by rw [HA5.out.block HS.out (by omega)]; exact HB.out
          obtain ⟨⟨c0, c1, c2, c3, c4, c5⟩, z0, z1, z2, z3, z4, z5⟩ := six hnb
          clear hnb
          dsimp only
          go_wp2
          exact bodyPost_ret (v := tokV k5 0 0 u5 id5 tx5) (by simp [results, Tryz.results92, go_sem, tokV, bstr_nil, c0, c1, c2, c3, c4, c5]) rfl ⟨k5, u5, id5, tx5, l5, o5, rfl, HA5.out.put6 HKA.out hgl (Nat.le_refl _) _ _ _ _ _ _, by have := HE5.out; have := HLE.out; have := HSPL.out; omega, HX5.out⟩
      case false =>
        have HSP := Lib.hid hsp
        have HLEN := HTL
        clear hsp
        cases b34 : (pk l 0 == 34)
        case true =>
          clear c0 c1 c2 c3 c4 c5 z0 z1 z2 z3 z4 z5 e2 hrg
          go_wp2_with (first | (go_at_call 56; first | (with_reducible refine (peek0_at HA.out hss).mono ?_; rintro e w9 ⟨rfl, rfl⟩) | (with_reducible refine (peek1_at HA.out hss).mono ?_; rintro e w9 ⟨rfl, rfl⟩)) | (go_at_call 58; refine (isSpace_any _ _).mono ?_; rw [HSP.out]; rintro e w9 ⟨rfl, rfl⟩))
          refine (badURL_lo g s v o K _ (l) HA.out.anew hss (by have := HLEN.out; have := HKK.out; have := HLE.out; omega)).mono ?_
          rintro e w5 ⟨k5, u5, id5, tx5, l5, o5, rfl, hlo5, hle5, htx5⟩
          have HA5 := Lib.hid ((HA.out.step hlo5))
          have HE5 := Lib.hid hle5
          have HX5 := Lib.hid htx5
          clear hlo5 hle5 htx5 
          unfold tokV
          have hnb : w5.heap[w.heap.size]? = some tok0 := by rw [HA5.out.block HS.out (by omega)]; exact HB.out
          obtain ⟨⟨c0, c1, c2, c3, c4, c5⟩, z0, z1, z2, z3, z4, z5⟩ := six hnb
          clear hnb
          dsimp only
          go_wp2
          exact bodyPost_ret (v := tokV k5 0 0 u5 id5 tx5) (by simp [results, Tryz.results92, go_sem, tokV, bstr_nil, c0, c1, c2, c3, c4, c5]) rfl ⟨k5, u5, id5, tx5, l5, o5, rfl, HA5.out.put6 HKA.out hgl (Nat.le_refl _) _ _ _ _ _ _, by have := HE5.out; have := HLE.out; omega, HX5.out⟩
        case false =>
        cases b39 : (pk l 0 == 39)
        case true =>
          clear c0 c1 c2 c3 c4 c5 z0 z1 z2 z3 z4 z5 e2 hrg
          go_wp2_with (first | (go_at_call 56; first | (with_reducible refine (peek0_at HA.out hss).mono ?_; rintro e w9 ⟨rfl, rfl⟩) | (with_reducible refine (peek1_at HA.out hss).mono ?_; rintro e w9 ⟨rfl, rfl⟩)) | (go_at_call 58; refine (isSpace_any _ _).mono ?_; rw [HSP.out]; rintro e w9 ⟨rfl, rfl⟩))
          refine (badURL_lo g s v o K _ (l) HA.out.anew hss (by have := HLEN.out; have := HKK.out; have := HLE.out; omega)).mono ?_
          rintro e w5 ⟨k5, u5, id5, tx5, l5, o5, rfl, hlo5, hle5, htx5⟩
          have HA5 := Lib.hid ((HA.out.step hlo5))
          have HE5 := Lib.hid hle5
          have HX5 := Lib.hid htx5
          clear hlo5 hle5 htx5 
          unfold tokV
          have hnb : w5.heap[w.heap.size]? = some tok0 := by rw [HA5.out.block HS.out (by omega)]; exact HB.out
          obtain ⟨⟨c0, c1, c2, c3, c4, c5⟩, z0, z1, z2, z3, z4, z5⟩ := six hnb
          clear hnb
          dsimp only
          go_wp2
          exact bodyPost_ret (v := tokV k5 0 0 u5 id5 tx5) (by simp [results, Tryz.results92, go_sem, tokV, bstr_nil, c0, c1, c2, c3, c4, c5]) rfl ⟨k5, u5, id5, tx5, l5, o5, rfl, HA5.out.put6 HKA.out hgl (Nat.le_refl _) _ _ _ _ _ _, by have := HE5.out; have := HLE.out; omega, HX5.out⟩
        case false =>
        cases b40 : (pk l 0 == 40)
        case true =>
          clear c0 c1 c2 c3 c4 c5 z0 z1 z2 z3 z4 z5 e2 hrg
          go_wp2_with (first | (go_at_call 56; first | (with_reducible refine (peek0_at HA.out hss).mono ?_; rintro e w9 ⟨rfl, rfl⟩) | (with_reducible refine (peek1_at HA.out hss).mono ?_; rintro e w9 ⟨rfl, rfl⟩)) | (go_at_call 58; refine (isSpace_any _ _).mono ?_; rw [HSP.out]; rintro e w9 ⟨rfl, rfl⟩))
          refine (badURL_lo g s v o K _ (l) HA.out.anew hss (by have := HLEN.out; have := HKK.out; have := HLE.out; omega)).mono ?_
          rintro e w5 ⟨k5, u5, id5, tx5, l5, o5, rfl, hlo5, hle5, htx5⟩
          have HA5 := Lib.hid ((HA.out.step hlo5))
          have HE5 := Lib.hid hle5
          have HX5 := Lib.hid htx5
          clear hlo5 hle5 htx5 
          unfold tokV
          have hnb : w5.heap[w.heap.size]? = some tok0 := by rw [HA5.out.block HS.out (by omega)]; exact HB.out
          obtain ⟨⟨c0, c1, c2, c3, c4, c5⟩, z0, z1, z2, z3, z4, z5⟩ := six hnb
          clear hnb
          dsimp only
          go_wp2
          exact bodyPost_ret (v := tokV k5 0 0 u5 id5 tx5) (by simp [results, Tryz.results92, go_sem, tokV, bstr_nil, c0, c1, c2, c3, c4, c5]) rfl ⟨k5, u5, id5, tx5, l5, o5, rfl, HA5.out.put6 HKA.out hgl (Nat.le_refl _) _ _ _ _ _ _, by have := HE5.out; have := HLE.out; omega, HX5.out⟩
        case false =>
        cases hun : unpr (pk l 0)
        case true =>
          have HUN := Lib.hid hun
          clear c0 c1 c2 c3 c4 c5 z0 z1 z2 z3 z4 z5 e2 hrg hun
          go_wp2_with (first | (go_at_call 56; first | (with_reducible refine (peek0_at HA.out hss).mono ?_; rintro e w9 ⟨rfl, rfl⟩) | (with_reducible refine (peek1_at HA.out hss).mono ?_; rintro e w9 ⟨rfl, rfl⟩)) | (go_at_call 58; refine (isSpace_any _ _).mono ?_; rw [HSP.out]; rintro e w9 ⟨rfl, rfl⟩) | (go_at_call 124; refine (isUnprintable_any _ _).mono ?_; rw [HUN.out]; rintro e w9 ⟨rfl, rfl⟩))
          refine (badURL_lo g s v o K _ (l) HA.out.anew hss (by have := HLEN.out; have := HKK.out; have := HLE.out; omega)).mono ?_
          rintro e w5 ⟨k5, u5, id5, tx5, l5, o5, rfl, hlo5, hle5, htx5⟩
          have HA5 := Lib.hid ((HA.out.step hlo5))
          have HE5 := Lib.hid hle5
          have HX5 := Lib.hid htx5
          clear hlo5 hle5 htx5 
          unfold tokV
          have hnb : w5.heap[w.heap.size]? = some tok0 := by rw [HA5.out.block HS.out (by omega)]; exact HB.out
          obtain ⟨⟨c0, c1, c2, c3, c4, c5⟩, z0, z1, z2, z3, z4, z5⟩ := six hnb
          clear hnb
          dsimp only
          go_wp2
          exact bodyPost_ret (v := tokV k5 0 0 u5 id5 tx5) (by simp [results, Tryz.results92, go_sem, tokV, bstr_nil, c0, c1, c2, c3, c4, c5]) rfl ⟨k5, u5, id5, tx5, l5, o5, rfl, HA5.out.put6 HKA.out hgl (Nat.le_refl _) _ _ _ _ _ _, by have := HE5.out; have := HLE.out; omega, HX5.out⟩
        case false =>
        have HUN := Lib.hid hun
        clear hun
        cases b92 : (pk l 0 == 92)
        case true =>
          cases hes : escs (pk l 0) (pk l 1)
          case false =>
            have HES := Lib.hid hes
            clear c0 c1 c2 c3 c4 c5 z0 z1 z2 z3 z4 z5 e2 hrg hes
            go_wp2_with (first | (go_at_call 56; first | (with_reducible refine (peek0_at HA.out hss).mono ?_; rintro e w9 ⟨rfl, rfl⟩) | (with_reducible refine (peek1_at HA.out hss).mono ?_; rintro e w9 ⟨rfl, rfl⟩)) | (go_at_call 58; refine (isSpace_any _ _).mono ?_; rw [HSP.out]; rintro e w9 ⟨rfl, rfl⟩) | (go_at_call 124; refine (isUnprintable_any _ _).mono ?_; rw [HUN.out]; rintro e w9 ⟨rfl, rfl⟩) | (go_at_call 62; refine (escapes_any _ _ _).mono ?_; rw [HES.out]; rintro e w9 ⟨rfl, rfl⟩))
            refine (badURL_lo g s v o K _ (l) HA.out.anew hss (by have := HLEN.out; have := HKK.out; have := HLE.out; omega)).mono ?_
            rintro e w5 ⟨k5, u5, id5, tx5, l5, o5, rfl, hlo5, hle5, htx5⟩
            have HA5 := Lib.hid ((HA.out.step hlo5))
            have HE5 := Lib.hid hle5
            have HX5 := Lib.hid htx5
            clear hlo5 hle5 htx5 
            unfold tokV
            have hnb : w5.heap[w.heap.size]? = some tok0 := by rw [HA5.out.block HS.out (by omega)]; exact HB.out
            obtain ⟨⟨c0, c1, c2, c3, c4, c5⟩, z0, z1, z2, z3, z4, z5⟩ := six hnb
            clear hnb
            dsimp only
            go_wp2
            exact bodyPost_ret (v := tokV k5 0 0 u5 id5 tx5) (by simp [results, Tryz.results92, go_sem, tokV, bstr_nil, c0, c1, c2, c3, c4, c5]) rfl ⟨k5, u5, id5, tx5, l5, o5, rfl, HA5.out.put6 HKA.out hgl (Nat.le_refl _) _ _ _ _ _ _, by have := HE5.out; have := HLE.out; omega, HX5.out⟩
          case true =>
            have HES := Lib.hid hes
            clear c0 c1 c2 c3 c4 c5 z0 z1 z2 z3 z4 z5 e2 hrg hes
            go_wp2_with (first | (go_at_call 56; first | (with_reducible refine (peek0_at HA.out hss).mono ?_; rintro e w9 ⟨rfl, rfl⟩) | (with_reducible refine (peek1_at HA.out hss).mono ?_; rintro e w9 ⟨rfl, rfl⟩)) | (go_at_call 58; refine (isSpace_any _ _).mono ?_; rw [HSP.out]; rintro e w9 ⟨rfl, rfl⟩) | (go_at_call 124; refine (isUnprintable_any _ _).mono ?_; rw [HUN.out]; rintro e w9 ⟨rfl, rfl⟩) | (go_at_call 62; refine (escapes_any _ _ _).mono ?_; rw [HES.out]; rintro e w9 ⟨rfl, rfl⟩))
            refine (take_at HA.out hss).mono ?_
            rintro e w4 ⟨rfl, hA4⟩
            have HA4 := Lib.hid hA4
            have HER : Hid (-10 ≤ (escM l.tail).1 ∧ (escM l.tail).1 ≤ 1114111) := by
              obtain ⟨q, h1, h2, -, -⟩ := hA4
              exact Lib.hid (by have := escM_range s q h1; rw [h2.out] at this; exact this)
            clear hA4
            go_wp2_with fail
            refine (escape_at HA4.out hss).mono ?_
            rintro e w5 ⟨rfl, hA5⟩
            have HA5 := Lib.hid hA5
            clear hA5
            have HSM := Lib.hid (show (bstr out).size + (bstr (encd (escM l.tail).1)).size ≤ 9223372036854775807 by rw [bstr_size, bstr_size]; have := encd_le4 (escM l.tail).1; have := HLN2.out; omega)
            have hsm := HSM.out
            go_wp2_with (go_at_call 68; refine (encoded_b _ _ HER.out.1 HER.out.2).mono ?_; rintro e w6 ⟨rfl, hk6⟩)
            have HA6 := Lib.hid (HA5.out.kpF hk6)
            clear hk6
            go_wp2
            go_roundg gk
            case rel => exact ⟨(escM l.tail).2.1, o || (escM l.tail).2.2, out ++ encd (escM l.tail).1, by rw [bstr_add], HA6.out, by have := escM_le l.tail; have := HTLT.out; have := HLT.out; omega, by have := escM_le l.tail; have := HTLT.out; have := HLE.out; omega, by have := escM_le l.tail; have := HTLT.out; have := HLN2.out; have := encd_le4 (escM l.tail).1; simp; omega⟩
            case measure => omega
        case false =>
          clear c0 c1 c2 c3 c4 c5 z0 z1 z2 z3 z4 z5 e2
          go_wp2_with (first | (go_at_call 56; first | (with_reducible refine (peek0_at HA.out hss).mono ?_; rintro e w9 ⟨rfl, rfl⟩) | (with_reducible refine (peek1_at HA.out hss).mono ?_; rintro e w9 ⟨rfl, rfl⟩)) | (go_at_call 58; refine (isSpace_any _ _).mono ?_; rw [HSP.out]; rintro e w9 ⟨rfl, rfl⟩) | (go_at_call 124; refine (isUnprintable_any _ _).mono ?_; rw [HUN.out]; rintro e w9 ⟨rfl, rfl⟩))
          refine (take_at HA.out hss).mono ?_
          rintro e w4 ⟨rfl, hA4⟩
          have HA4 := Lib.hid hA4
          clear hA4
          have HER : Hid (-10 ≤ pk l 0 ∧ pk l 0 ≤ 1114111) := Lib.hid (by omega)
          clear hrg
          have HSM := Lib.hid (show (bstr out).size + (bstr (encd (pk l 0))).size ≤ 9223372036854775807 by rw [bstr_size, bstr_size]; have := encd_le4 (pk l 0); have := HLN2.out; omega)
          have hsm := HSM.out
          go_wp2_with (go_at_call 68; refine (encoded_b _ _ HER.out.1 HER.out.2).mono ?_; rintro e w6 ⟨rfl, hk6⟩)
          have HA6 := Lib.hid (HA4.out.kpF hk6)
          clear hk6
          go_wp2
          go_roundg gk
          case rel => exact ⟨l.tail, o, out ++ encd (pk l 0), by rw [bstr_add], HA6.out, by have := HTLT.out; have := HLT.out; omega, by have := HTLT.out; have := HLE.out; omega, by have := HTLT.out; have := HLN2.out; have := encd_le4 (pk l 0); simp; omega⟩
          case measure => omega
end Go.Proofs.YtkaejhdncohgpaaGreatFmt

/- The reference's lexer, whatever the text: names and what belongs to them, signs. Condition: the text has at most 2^40 bytes. -/
namespace Go.Proofs.YtkaejhdncohgpaaGreatFmt
set_option linter.all false
open Go.RowKit
set_option maxRecDepth 100000
set_option maxHeartbeats 1000000

/-- A token, whichever; what is left is no longer. -/
def TotN (g : Nat) (s : ByteArray) (v : Value) (w : World) (l0 : Its) (e : Ending) (w' : World) : Prop := ∃ k u id tx l' o', e = .returned (tokV k 0 0 u id tx) ∧ Lo g s v w l' o' w' ∧ l'.length ≤ l0.length
/-- A token, whichever; what is left is shorter, but at the end. -/
def TotX (g : Nat) (s : ByteArray) (v : Value) (w : World) (l0 : Its) (e : Ending) (w' : World) : Prop := ∃ (k u : Int) (id : Bool) (tx : List UInt8) (l' : Its) (o' : Bool), e = .returned (tokV k 0 0 u id tx) ∧ Lo g s v w l' o' w' ∧ l'.length ≤ l0.length ∧ (k = 0 ∨ l'.length < l0.length)
/-- A truth value, whichever. -/
def BoolR (e : Ending) : Prop := ∃ b : Bool, e = .returned (.bool b)
theorem Trimmed_any (l : List UInt8) (w : World) (hl : l.length ≤ 140737488355328) : Calls Tryz.prog 93 #[.string (bstr l)] w fun e w' => BoolR e ∧ w' = w := by
  cases l with
  | nil =>
    have hne : (bstr []).toList = [] := by rw [Lib.toList_data]; rfl
    go_enter Tryz.func93, Tryz.ntmps93
    go_wp2
    go_ret
    exact ⟨⟨_, rfl⟩, rfl⟩
  | cons x r =>
    have hz : (bstr (x :: r)).size = r.length + 1 := bstr_size _
    have hne : ¬ (bstr (x :: r)).toList = [] := by rw [Lib.toList_data]; simp [bstr]
    generalize bstr (x :: r) = s at *
    have h0 : 0 < s.size := by omega
    have h1 : r.length < s.size := by omega
    have h2 : r.length ≤ 140737488355328 := by simp at hl; omega
    have h3 : wrap64 ((r.length : Nat) : Int) = r.length := by unfold wrap64; omega
    clear hl
    cases hsp : isSp (wrap64 ((s[0].toNat : Nat) : Int)) <;> cases hsq : isSp (wrap64 ((s[r.length].toNat : Nat) : Int))
    all_goals
      go_enter Tryz.func93, Tryz.ntmps93
      go_wp2_with (go_at_call 58; refine (isSpace_any _ _).mono ?_; rintro e w9 ⟨rfl, rfl⟩)
      go_ret
      exact ⟨⟨_, rfl⟩, rfl⟩
theorem named_url (g : Nat) (s : ByteArray) (v : Value) (op : Bool) (K : Nat) (w : World) (l0 : Its) (h : At g s v w l0 op w) (hs : s.size ≤ 1099511627776) (hK : l0.length < K) (nm : List UInt8) (l1 : Its) (o1 : Bool) (HN : Hid (nameM K l0 [] op = (nm, l1, o1))) (hc : pk l1 0 = 40) (hu : isUrlB nm = true) :
    Calls Tryz.prog 66 #[.pointer (some ⟨g, 0, none⟩)] w fun e w' => TotN g s v w l1 e w' := by
  have hss : s.size ≤ 140737488355328 := by omega
  obtain ⟨f1, f3, z1, z3, hw0⟩ := h.f
  have HKK := Lib.hid hK
  have hgl := h.gl
  have HA := h.new tok0
  have HB := Lib.hid (alloc_tok w)
  have HKA := Lib.hid ((Kp.refl (fun k => k = g) w).alloc tok0)
  have HS := Lib.hid (Array.getElem?_eq_some_iff.1 (alloc_tok w)).1
  clear h hK z1 z3
  have hc' : (pk l1 0 != 40) = false := by simp [hc]
  have HC := Lib.hid hc
  have HU := Lib.hid hu
  clear hc hu
  go_enter Tryz.func66, Tryz.ntmps66
  go_wp2_with fail
  generalize w.alloc tok0 = w1 at *
  clear f1 f3
  refine (name_at K HA hss HKK.out).mono ?_
  rintro e w5 ⟨rfl, HA5⟩
  rw [HN.out] at HA5 ⊢
  clear HA
  have HA := HA5
  clear HA5
  obtain ⟨f1, f3, z1', z3', hw1⟩ := HA.f
  clear f3 z1' z3'
  have HLS := Lib.hid (show l1.length < s.size + 1 by have := HA.len; dsimp only at this; omega)
  go_wp2_with (go_at_call 56; (with_reducible refine (peek0_at HA hss).mono ?_); rintro e w9 ⟨rfl, rfl⟩)
  refine (take_at HA hss).mono ?_
  rintro e w6 ⟨rfl, HA6⟩
  clear HA f1
  have HA := Lib.hid HA6
  clear HA6
  obtain ⟨f1, -, -, -, -⟩ := HA.out.f
  go_wp2_with (go_at_call 23; refine (isURL_any _ _).mono ?_; rw [HU.out]; rintro e w9 ⟨rfl, rfl⟩)
  clear f1
  have HTL := Lib.hid (tail_le l1)
  go_loopg [] (s.size + 1) (fun n wr => ∃ l, Hid (At g s v w1 l o1 wr) ∧ Hid (l.length < n) ∧ Hid (l.length ≤ l1.length))
  case atStart => exact ⟨l1.tail, HA, Lib.hid (by have := HTL.out; have := HLS.out; omega), HTL⟩
  case round =>
    obtain ⟨l, HA9, HN9, HL9⟩ := hrel
    cases gk with
    | zero => exact absurd HN9.out (by omega)
    | succ gk =>
      cases hsp : isSp (pk l 0)
      case true =>
        have HSP := Lib.hid hsp
        have HTLT := Lib.hid (show l.tail.length < l.length by cases l with
          | nil => exact absurd hsp (by decide)
          | cons a b => simp)
        clear hsp
        go_wp2_with (first | (go_at_call 56; (with_reducible refine (peek0_at HA9.out hss).mono ?_); rintro e w9 ⟨rfl, rfl⟩) | (go_at_call 58; refine (isSpace_any _ _).mono ?_; rw [HSP.out]; rintro e w9 ⟨rfl, rfl⟩))
        refine (take_at HA9.out hss).mono ?_
        rintro e w4 ⟨rfl, hA4⟩
        have HA4 := Lib.hid hA4
        clear hA4
        go_wp2
        go_roundg gk
        case rel => exact ⟨l.tail, HA4, Lib.hid (by have := HTLT.out; have := HN9.out; omega), Lib.hid (by have := HTLT.out; have := HL9.out; omega)⟩
        case measure => omega
      case false =>
        have HSP := Lib.hid hsp
        clear hsp
        cases b34 : (pk l 0 != 34)
        case false =>
          have hnb : wr.heap[w.heap.size]? = some tok0 := by rw [HA9.out.block HS.out (by omega)]; exact HB.out
          obtain ⟨⟨c0, c1, c2, c3, c4, c5⟩, z0, z1, z2, z3, z4, z5⟩ := six hnb
          obtain ⟨f1, f3, y1, y3, -⟩ := HA9.out.f
          clear hnb
          go_wp2_with (first | (go_at_call 56; (with_reducible refine (peek0_at HA9.out hss).mono ?_); rintro e w9 ⟨rfl, rfl⟩) | (go_at_call 58; refine (isSpace_any _ _).mono ?_; rw [HSP.out]; rintro e w9 ⟨rfl, rfl⟩))
          exact bodyPost_ret (v := tokV 27 0 0 0 false nm) (by simp [results, Tryz.results66, go_sem, tokV, bstr_nil, c0, c1, c2, c3, c4, c5]) rfl ⟨27, 0, false, nm, l1.tail, o1, rfl, (HA9.out.back HA.out.anew).put6 HKA.out hgl (Nat.le_refl _) _ _ _ _ _ _, HTL.out⟩
        case true =>
        cases b39 : (pk l 0 != 39)
        case false =>
          have hnb : wr.heap[w.heap.size]? = some tok0 := by rw [HA9.out.block HS.out (by omega)]; exact HB.out
          obtain ⟨⟨c0, c1, c2, c3, c4, c5⟩, z0, z1, z2, z3, z4, z5⟩ := six hnb
          obtain ⟨f1, f3, y1, y3, -⟩ := HA9.out.f
          clear hnb
          go_wp2_with (first | (go_at_call 56; (with_reducible refine (peek0_at HA9.out hss).mono ?_); rintro e w9 ⟨rfl, rfl⟩) | (go_at_call 58; refine (isSpace_any _ _).mono ?_; rw [HSP.out]; rintro e w9 ⟨rfl, rfl⟩))
          exact bodyPost_ret (v := tokV 27 0 0 0 false nm) (by simp [results, Tryz.results66, go_sem, tokV, bstr_nil, c0, c1, c2, c3, c4, c5]) rfl ⟨27, 0, false, nm, l1.tail, o1, rfl, (HA9.out.back HA.out.anew).put6 HKA.out hgl (Nat.le_refl _) _ _ _ _ _ _, HTL.out⟩
        case true =>
          go_wp2_with (first | (go_at_call 56; (with_reducible refine (peek0_at HA9.out hss).mono ?_); rintro e w9 ⟨rfl, rfl⟩) | (go_at_call 58; refine (isSpace_any _ _).mono ?_; rw [HSP.out]; rintro e w9 ⟨rfl, rfl⟩))
          refine (url_lo g s v o1 (s.size + 1) _ l HA9.out.anew hs (by have := HA9.out.len; omega)).mono ?_
          rintro e w5 ⟨k5, u5, id5, tx5, l5, o5, rfl, hlo5, hle5, htx5⟩
          have HA5 := Lib.hid ((HA9.out.step hlo5))
          have HE5 := Lib.hid hle5
          have HX5 := Lib.hid htx5
          have hgl5 := HA5.out.gl
          have hb5 : w5.heap[w.heap.size]? = some tok0 := by rw [HA5.out.block HS.out (by omega)]; exact HB.out
          have hw5 := (Array.getElem?_eq_some_iff.1 hb5).1
          obtain ⟨⟨c0, c1, c2, c3, c4, c5⟩, z0, z1, z2, z3, z4, z5⟩ := six hb5
          obtain ⟨f1, f3, y1, y3, -⟩ := HA5.out.f
          clear hlo5 hle5 htx5 hb5
          have hgw : ¬ g = w5.heap.size := by omega
          have hww : ¬ w.heap.size = w5.heap.size := by omega
          have hgw' : ¬ w5.heap.size = g := by omega
          have hww' : ¬ w5.heap.size = w.heap.size := by omega
          unfold tokV
          dsimp only
          go_wp2_with (go_at_call 93; (with_reducible refine (Trimmed_any tx5 _ (by have := HX5.out; omega)).mono ?_); rintro e w9 ⟨⟨b93, rfl⟩, rfl⟩)
          all_goals exact bodyPost_ret (v := tokV k5 0 0 u5 id5 tx5) (by simp [results, Tryz.results66, go_sem, tokV, bstr_nil, c0, c1, c2, c3, c4, c5, hww, hww', hw5, World.cell?_alloc_past]) rfl ⟨k5, u5, id5, tx5, l5, _, rfl, ((At.of ((HA5.out.opn _).put6 HKA.out hgl (Nat.le_refl _) _ _ _ _ _ _)).alloc _).lo, by have := HE5.out; have := HL9.out; omega⟩
end Go.Proofs.YtkaejhdncohgpaaGreatFmt

/- The reference's lexer, whatever the text: signs, and next. Condition: the text has at most 2^40 bytes. -/
namespace Go.Proofs.YtkaejhdncohgpaaGreatFmt
set_option linter.all false
open Go.RowKit
set_option maxRecDepth 100000
set_option maxHeartbeats 1000000

theorem fin_asc (n low : Nat) (o : Option Nat) (hl : 128 ≤ low) : (fin n low o).1 < 0 ∨ 128 ≤ (fin n low o).1 := by
  cases o with
  | none => exact .inl (by simp [fin])
  | some c =>
    by_cases h : c < low ∨ 1114111 < c ∨ 55296 ≤ c ∧ c < 57344
    · exact .inl (by rw [fin, if_pos h]; decide)
    · exact .inr (by rw [fin, if_neg h]; show (128 : Int) ≤ ((c : Nat) : Int); omega)
theorem raL_asc (l : List UInt8) (h0 : 0 ≤ (raL l).1) (h1 : (raL l).1 < 128) : (raL l).2 = 1 := by
  cases l with
  | nil => simp [raL] at h0
  | cons b t =>
    by_cases hb : b.toNat < 128
    · simp [raL, hb]
    by_cases hc : 194 ≤ b.toNat ∧ b.toNat < 224
    · rw [show raL (b :: t) = fin 2 128 (goC 1 (b.toNat % 32) t) by simp only [raL]; rw [if_neg hb, if_pos hc]] at h0 h1
      have := fin_asc 2 128 (goC 1 (b.toNat % 32) t) (by omega); omega
    by_cases hd : 224 ≤ b.toNat ∧ b.toNat < 240
    · rw [show raL (b :: t) = fin 3 2048 (goC 2 (b.toNat % 16) t) by simp only [raL]; rw [if_neg hb, if_neg hc, if_pos hd]] at h0 h1
      have := fin_asc 3 2048 (goC 2 (b.toNat % 16) t) (by omega); omega
    by_cases he : 240 ≤ b.toNat ∧ b.toNat < 245
    · rw [show raL (b :: t) = fin 4 65536 (goC 3 (b.toNat % 8) t) by simp only [raL]; rw [if_neg hb, if_neg hc, if_neg hd, if_pos he]] at h0 h1
      have := fin_asc 4 65536 (goC 3 (b.toNat % 8) t) (by omega); omega
    · rw [show raL (b :: t) = (-2, 1) by simp only [raL]; rw [if_neg hb, if_neg hc, if_neg hd, if_neg he]] at h0
      simp at h0
/-- What is left of a text somewhere. -/
def Sf (s : ByteArray) (l : Its) : Prop := ∃ q, q ≤ s.size ∧ lft s q = l
theorem Sf.tail {s : ByteArray} {l : Its} (h : Sf s l) : Sf s l.tail := by
  obtain ⟨q, h1, rfl⟩ := h
  have := its_step s q h1
  exact ⟨_, this.1, this.2.1⟩
theorem Sf.sum {s : ByteArray} {l : Its} (h : Sf s l) : wsum l ≤ s.size := by
  obtain ⟨q, h1, rfl⟩ := h
  exact (lft_wsum s q h1).2
theorem Sf.asc {s : ByteArray} {l : Its} (h : Sf s l) (h0 : 0 ≤ pk l 0) (h1 : pk l 0 < 128) : wsum l = wsum l.tail + 1 := by
  obtain ⟨q, hq, rfl⟩ := h
  have hs := its_step s q hq
  rw [← hs.2.2] at h0 h1
  have hw := raL_asc _ h0 h1
  rw [hw] at hs
  have a1 := lft_wsum s q hq
  have a2 := lft_wsum s (q + 1) hs.1
  rw [hs.2.1] at a2
  omega
theorem At.sf {g : Nat} {s : ByteArray} {v : Value} {w0 wr : World} {l : Its} {o : Bool} (h : At g s v w0 l o wr) : Sf s l := by
  obtain ⟨q, h1, h2, -, -⟩ := h
  exact ⟨q, h1, h2.out⟩
theorem At.to {g : Nat} {s : ByteArray} {v : Value} {w0 wr : World} {l l' : Its} {o : Bool} (h : At g s v w0 l o wr) (k : Sf s l') : At g s v w0 l' o (wr.setCell ⟨g, 1, none⟩ (.int .i64 ((s.size - wsum l' : Nat) : Int))) := by
  obtain ⟨q, h1, h2, h3, h4⟩ := h
  obtain ⟨q', k1, k2⟩ := k
  have hw := lft_wsum s q' k1
  rw [k2] at hw
  exact ⟨q', k1, Lib.hid k2, Lib.hid (h3.out.at q' _ (by rw [hw.1])), Lib.hid (h4.out.cell 1 _)⟩

theorem sign_tot (g : Nat) (s : ByteArray) (v : Value) (op : Bool) (w : World) (l0 : Its) (h : At g s v w l0 op w) (hs : s.size ≤ 140737488355328) :
    Calls Tryz.prog 67 #[.pointer (some ⟨g, 0, none⟩)] w fun e w' => ∃ k, e = .returned (tokV k 0 0 0 false []) ∧ Lo g s v w l0.tail op w' := by
  have hgl := h.gl
  have HA := h.new tok0
  have HB := Lib.hid (alloc_tok w)
  have HKA := Lib.hid ((Kp.refl (fun k => k = g) w).alloc tok0)
  have HS := Lib.hid (Array.getElem?_eq_some_iff.1 (alloc_tok w)).1
  clear h
  by_cases e123 : pk l0 0 = 123
  · have HC := Lib.hid e123
    clear e123
    go_enter Tryz.func67, Tryz.ntmps67
    go_wp2_with fail
    generalize w.alloc tok0 = w1 at *
    refine (take_at HA hs).mono ?_
    rintro e w5 ⟨rfl, HA5⟩
    clear HA
    have HA := HA5
    have hwb : w5.heap[w.heap.size]? = some tok0 := by rw [HA.block HS.out (by omega)]; exact HB.out
    have six' := six hwb
    obtain ⟨⟨c0, c1, c2, c3, c4, c5⟩, z0, z1, z2, z3, z4, z5⟩ := six'
    clear hwb
    rw [HC.out]
    go_wp2
    exact bodyPost_ret (v := tokV 31 0 0 0 false []) (by simp [results, Tryz.results67, go_sem, tokV, bstr_nil, c0, c1, c2, c3, c4, c5]) rfl ⟨31, rfl, by exact HA.put6 HKA.out hgl (Nat.le_refl _) _ _ _ _ _ _⟩
  have b123 : (pk l0 0 == 123) = false := by simp [e123]
  clear e123
  by_cases e125 : pk l0 0 = 125
  · have HC := Lib.hid e125
    clear b123 e125
    go_enter Tryz.func67, Tryz.ntmps67
    go_wp2_with fail
    generalize w.alloc tok0 = w1 at *
    refine (take_at HA hs).mono ?_
    rintro e w5 ⟨rfl, HA5⟩
    clear HA
    have HA := HA5
    have hwb : w5.heap[w.heap.size]? = some tok0 := by rw [HA.block HS.out (by omega)]; exact HB.out
    have six' := six hwb
    obtain ⟨⟨c0, c1, c2, c3, c4, c5⟩, z0, z1, z2, z3, z4, z5⟩ := six'
    clear hwb
    rw [HC.out]
    go_wp2
    exact bodyPost_ret (v := tokV 6 0 0 0 false []) (by simp [results, Tryz.results67, go_sem, tokV, bstr_nil, c0, c1, c2, c3, c4, c5]) rfl ⟨6, rfl, by exact HA.put6 HKA.out hgl (Nat.le_refl _) _ _ _ _ _ _⟩
  have b125 : (pk l0 0 == 125) = false := by simp [e125]
  clear e125
  by_cases e91 : pk l0 0 = 91
  · have HC := Lib.hid e91
    clear b123 b125 e91
    go_enter Tryz.func67, Tryz.ntmps67
    go_wp2_with fail
    generalize w.alloc tok0 = w1 at *
    refine (take_at HA hs).mono ?_
    rintro e w5 ⟨rfl, HA5⟩
    clear HA
    have HA := HA5
    have hwb : w5.heap[w.heap.size]? = some tok0 := by rw [HA.block HS.out (by omega)]; exact HB.out
    have six' := six hwb
    obtain ⟨⟨c0, c1, c2, c3, c4, c5⟩, z0, z1, z2, z3, z4, z5⟩ := six'
    clear hwb
    rw [HC.out]
    go_wp2
    exact bodyPost_ret (v := tokV 32 0 0 0 false []) (by simp [results, Tryz.results67, go_sem, tokV, bstr_nil, c0, c1, c2, c3, c4, c5]) rfl ⟨32, rfl, by exact HA.put6 HKA.out hgl (Nat.le_refl _) _ _ _ _ _ _⟩
  have b91 : (pk l0 0 == 91) = false := by simp [e91]
  clear e91
  by_cases e93 : pk l0 0 = 93
  · have HC := Lib.hid e93
    clear b123 b125 b91 e93
    go_enter Tryz.func67, Tryz.ntmps67
    go_wp2_with fail
    generalize w.alloc tok0 = w1 at *
    refine (take_at HA hs).mono ?_
    rintro e w5 ⟨rfl, HA5⟩
    clear HA
    have HA := HA5
    have hwb : w5.heap[w.heap.size]? = some tok0 := by rw [HA.block HS.out (by omega)]; exact HB.out
    have six' := six hwb
    obtain ⟨⟨c0, c1, c2, c3, c4, c5⟩, z0, z1, z2, z3, z4, z5⟩ := six'
    clear hwb
    rw [HC.out]
    go_wp2
    exact bodyPost_ret (v := tokV 7 0 0 0 false []) (by simp [results, Tryz.results67, go_sem, tokV, bstr_nil, c0, c1, c2, c3, c4, c5]) rfl ⟨7, rfl, by exact HA.put6 HKA.out hgl (Nat.le_refl _) _ _ _ _ _ _⟩
  have b93 : (pk l0 0 == 93) = false := by simp [e93]
  clear e93
  by_cases e40 : pk l0 0 = 40
  · have HC := Lib.hid e40
    clear b123 b125 b91 b93 e40
    go_enter Tryz.func67, Tryz.ntmps67
    go_wp2_with fail
    generalize w.alloc tok0 = w1 at *
    refine (take_at HA hs).mono ?_
    rintro e w5 ⟨rfl, HA5⟩
    clear HA
    have HA := HA5
    have hwb : w5.heap[w.heap.size]? = some tok0 := by rw [HA.block HS.out (by omega)]; exact HB.out
    have six' := six hwb
    obtain ⟨⟨c0, c1, c2, c3, c4, c5⟩, z0, z1, z2, z3, z4, z5⟩ := six'
    clear hwb
    rw [HC.out]
    go_wp2
    exact bodyPost_ret (v := tokV 33 0 0 0 false []) (by simp [results, Tryz.results67, go_sem, tokV, bstr_nil, c0, c1, c2, c3, c4, c5]) rfl ⟨33, rfl, by exact HA.put6 HKA.out hgl (Nat.le_refl _) _ _ _ _ _ _⟩
  have b40 : (pk l0 0 == 40) = false := by simp [e40]
  clear e40
  by_cases e41 : pk l0 0 = 41
  · have HC := Lib.hid e41
    clear b123 b125 b91 b93 b40 e41
    go_enter Tryz.func67, Tryz.ntmps67
    go_wp2_with fail
    generalize w.alloc tok0 = w1 at *
    refine (take_at HA hs).mono ?_
    rintro e w5 ⟨rfl, HA5⟩
    clear HA
    have HA := HA5
    have hwb : w5.heap[w.heap.size]? = some tok0 := by rw [HA.block HS.out (by omega)]; exact HB.out
    have six' := six hwb
    obtain ⟨⟨c0, c1, c2, c3, c4, c5⟩, z0, z1, z2, z3, z4, z5⟩ := six'
    clear hwb
    rw [HC.out]
    go_wp2
    exact bodyPost_ret (v := tokV 8 0 0 0 false []) (by simp [results, Tryz.results67, go_sem, tokV, bstr_nil, c0, c1, c2, c3, c4, c5]) rfl ⟨8, rfl, by exact HA.put6 HKA.out hgl (Nat.le_refl _) _ _ _ _ _ _⟩
  have b41 : (pk l0 0 == 41) = false := by simp [e41]
  clear e41
  by_cases e58 : pk l0 0 = 58
  · have HC := Lib.hid e58
    clear b123 b125 b91 b93 b40 b41 e58
    go_enter Tryz.func67, Tryz.ntmps67
    go_wp2_with fail
    generalize w.alloc tok0 = w1 at *
    refine (take_at HA hs).mono ?_
    rintro e w5 ⟨rfl, HA5⟩
    clear HA
    have HA := HA5
    have hwb : w5.heap[w.heap.size]? = some tok0 := by rw [HA.block HS.out (by omega)]; exact HB.out
    have six' := six hwb
    obtain ⟨⟨c0, c1, c2, c3, c4, c5⟩, z0, z1, z2, z3, z4, z5⟩ := six'
    clear hwb
    rw [HC.out]
    go_wp2
    exact bodyPost_ret (v := tokV 9 0 0 0 false []) (by simp [results, Tryz.results67, go_sem, tokV, bstr_nil, c0, c1, c2, c3, c4, c5]) rfl ⟨9, rfl, by exact HA.put6 HKA.out hgl (Nat.le_refl _) _ _ _ _ _ _⟩
  have b58 : (pk l0 0 == 58) = false := by simp [e58]
  clear e58
  by_cases e59 : pk l0 0 = 59
  · have HC := Lib.hid e59
    clear b123 b125 b91 b93 b40 b41 b58 e59
    go_enter Tryz.func67, Tryz.ntmps67
    go_wp2_with fail
    generalize w.alloc tok0 = w1 at *
    refine (take_at HA hs).mono ?_
    rintro e w5 ⟨rfl, HA5⟩
    clear HA
    have HA := HA5
    have hwb : w5.heap[w.heap.size]? = some tok0 := by rw [HA.block HS.out (by omega)]; exact HB.out
    have six' := six hwb
    obtain ⟨⟨c0, c1, c2, c3, c4, c5⟩, z0, z1, z2, z3, z4, z5⟩ := six'
    clear hwb
    rw [HC.out]
    go_wp2
    exact bodyPost_ret (v := tokV 35 0 0 0 false []) (by simp [results, Tryz.results67, go_sem, tokV, bstr_nil, c0, c1, c2, c3, c4, c5]) rfl ⟨35, rfl, by exact HA.put6 HKA.out hgl (Nat.le_refl _) _ _ _ _ _ _⟩
  have b59 : (pk l0 0 == 59) = false := by simp [e59]
  clear e59
  by_cases e44 : pk l0 0 = 44
  · have HC := Lib.hid e44
    clear b123 b125 b91 b93 b40 b41 b58 b59 e44
    go_enter Tryz.func67, Tryz.ntmps67
    go_wp2_with fail
    generalize w.alloc tok0 = w1 at *
    refine (take_at HA hs).mono ?_
    rintro e w5 ⟨rfl, HA5⟩
    clear HA
    have HA := HA5
    have hwb : w5.heap[w.heap.size]? = some tok0 := by rw [HA.block HS.out (by omega)]; exact HB.out
    have six' := six hwb
    obtain ⟨⟨c0, c1, c2, c3, c4, c5⟩, z0, z1, z2, z3, z4, z5⟩ := six'
    clear hwb
    rw [HC.out]
    go_wp2
    exact bodyPost_ret (v := tokV 10 0 0 0 false []) (by simp [results, Tryz.results67, go_sem, tokV, bstr_nil, c0, c1, c2, c3, c4, c5]) rfl ⟨10, rfl, by exact HA.put6 HKA.out hgl (Nat.le_refl _) _ _ _ _ _ _⟩
  have b44 : (pk l0 0 == 44) = false := by simp [e44]
  clear e44
  by_cases e38 : pk l0 0 = 38
  · have HC := Lib.hid e38
    clear b123 b125 b91 b93 b40 b41 b58 b59 b44 e38
    go_enter Tryz.func67, Tryz.ntmps67
    go_wp2_with fail
    generalize w.alloc tok0 = w1 at *
    refine (take_at HA hs).mono ?_
    rintro e w5 ⟨rfl, HA5⟩
    clear HA
    have HA := HA5
    have hwb : w5.heap[w.heap.size]? = some tok0 := by rw [HA.block HS.out (by omega)]; exact HB.out
    have six' := six hwb
    obtain ⟨⟨c0, c1, c2, c3, c4, c5⟩, z0, z1, z2, z3, z4, z5⟩ := six'
    clear hwb
    rw [HC.out]
    go_wp2
    exact bodyPost_ret (v := tokV 12 0 0 0 false []) (by simp [results, Tryz.results67, go_sem, tokV, bstr_nil, c0, c1, c2, c3, c4, c5]) rfl ⟨12, rfl, by exact HA.put6 HKA.out hgl (Nat.le_refl _) _ _ _ _ _ _⟩
  have b38 : (pk l0 0 == 38) = false := by simp [e38]
  clear e38
  by_cases e42 : pk l0 0 = 42
  · have HC := Lib.hid e42
    clear b123 b125 b91 b93 b40 b41 b58 b59 b44 b38 e42
    go_enter Tryz.func67, Tryz.ntmps67
    go_wp2_with fail
    generalize w.alloc tok0 = w1 at *
    refine (take_at HA hs).mono ?_
    rintro e w5 ⟨rfl, HA5⟩
    clear HA
    have HA := HA5
    have hwb : w5.heap[w.heap.size]? = some tok0 := by rw [HA.block HS.out (by omega)]; exact HB.out
    have six' := six hwb
    obtain ⟨⟨c0, c1, c2, c3, c4, c5⟩, z0, z1, z2, z3, z4, z5⟩ := six'
    clear hwb
    rw [HC.out]
    go_wp2
    exact bodyPost_ret (v := tokV 13 0 0 0 false []) (by simp [results, Tryz.results67, go_sem, tokV, bstr_nil, c0, c1, c2, c3, c4, c5]) rfl ⟨13, rfl, by exact HA.put6 HKA.out hgl (Nat.le_refl _) _ _ _ _ _ _⟩
  have b42 : (pk l0 0 == 42) = false := by simp [e42]
  clear e42
  by_cases e124 : pk l0 0 = 124
  · have HC := Lib.hid e124
    clear b123 b125 b91 b93 b40 b41 b58 b59 b44 b38 b42 e124
    go_enter Tryz.func67, Tryz.ntmps67
    go_wp2_with fail
    generalize w.alloc tok0 = w1 at *
    refine (take_at HA hs).mono ?_
    rintro e w5 ⟨rfl, HA5⟩
    clear HA
    have HA := HA5
    have hwb : w5.heap[w.heap.size]? = some tok0 := by rw [HA.block HS.out (by omega)]; exact HB.out
    have six' := six hwb
    obtain ⟨⟨c0, c1, c2, c3, c4, c5⟩, z0, z1, z2, z3, z4, z5⟩ := six'
    clear hwb
    rw [HC.out]
    go_wp2
    exact bodyPost_ret (v := tokV 14 0 0 0 false []) (by simp [results, Tryz.results67, go_sem, tokV, bstr_nil, c0, c1, c2, c3, c4, c5]) rfl ⟨14, rfl, by exact HA.put6 HKA.out hgl (Nat.le_refl _) _ _ _ _ _ _⟩
  have b124 : (pk l0 0 == 124) = false := by simp [e124]
  clear e124
  by_cases e94 : pk l0 0 = 94
  · have HC := Lib.hid e94
    clear b123 b125 b91 b93 b40 b41 b58 b59 b44 b38 b42 b124 e94
    go_enter Tryz.func67, Tryz.ntmps67
    go_wp2_with fail
    generalize w.alloc tok0 = w1 at *
    refine (take_at HA hs).mono ?_
    rintro e w5 ⟨rfl, HA5⟩
    clear HA
    have HA := HA5
    have hwb : w5.heap[w.heap.size]? = some tok0 := by rw [HA.block HS.out (by omega)]; exact HB.out
    have six' := six hwb
    obtain ⟨⟨c0, c1, c2, c3, c4, c5⟩, z0, z1, z2, z3, z4, z5⟩ := six'
    clear hwb
    rw [HC.out]
    go_wp2
    exact bodyPost_ret (v := tokV 15 0 0 0 false []) (by simp [results, Tryz.results67, go_sem, tokV, bstr_nil, c0, c1, c2, c3, c4, c5]) rfl ⟨15, rfl, by exact HA.put6 HKA.out hgl (Nat.le_refl _) _ _ _ _ _ _⟩
  have b94 : (pk l0 0 == 94) = false := by simp [e94]
  clear e94
  by_cases e36 : pk l0 0 = 36
  · have HC := Lib.hid e36
    clear b123 b125 b91 b93 b40 b41 b58 b59 b44 b38 b42 b124 b94 e36
    go_enter Tryz.func67, Tryz.ntmps67
    go_wp2_with fail
    generalize w.alloc tok0 = w1 at *
    refine (take_at HA hs).mono ?_
    rintro e w5 ⟨rfl, HA5⟩
    clear HA
    have HA := HA5
    have hwb : w5.heap[w.heap.size]? = some tok0 := by rw [HA.block HS.out (by omega)]; exact HB.out
    have six' := six hwb
    obtain ⟨⟨c0, c1, c2, c3, c4, c5⟩, z0, z1, z2, z3, z4, z5⟩ := six'
    clear hwb
    rw [HC.out]
    go_wp2
    exact bodyPost_ret (v := tokV 16 0 0 0 false []) (by simp [results, Tryz.results67, go_sem, tokV, bstr_nil, c0, c1, c2, c3, c4, c5]) rfl ⟨16, rfl, by exact HA.put6 HKA.out hgl (Nat.le_refl _) _ _ _ _ _ _⟩
  have b36 : (pk l0 0 == 36) = false := by simp [e36]
  clear e36
  by_cases e46 : pk l0 0 = 46
  · have HC := Lib.hid e46
    clear b123 b125 b91 b93 b40 b41 b58 b59 b44 b38 b42 b124 b94 b36 e46
    go_enter Tryz.func67, Tryz.ntmps67
    go_wp2_with fail
    generalize w.alloc tok0 = w1 at *
    refine (take_at HA hs).mono ?_
    rintro e w5 ⟨rfl, HA5⟩
    clear HA
    have HA := HA5
    have hwb : w5.heap[w.heap.size]? = some tok0 := by rw [HA.block HS.out (by omega)]; exact HB.out
    have six' := six hwb
    obtain ⟨⟨c0, c1, c2, c3, c4, c5⟩, z0, z1, z2, z3, z4, z5⟩ := six'
    clear hwb
    rw [HC.out]
    go_wp2
    exact bodyPost_ret (v := tokV 17 0 0 0 false []) (by simp [results, Tryz.results67, go_sem, tokV, bstr_nil, c0, c1, c2, c3, c4, c5]) rfl ⟨17, rfl, by exact HA.put6 HKA.out hgl (Nat.le_refl _) _ _ _ _ _ _⟩
  have b46 : (pk l0 0 == 46) = false := by simp [e46]
  clear e46
  by_cases e61 : pk l0 0 = 61
  · have HC := Lib.hid e61
    clear b123 b125 b91 b93 b40 b41 b58 b59 b44 b38 b42 b124 b94 b36 b46 e61
    go_enter Tryz.func67, Tryz.ntmps67
    go_wp2_with fail
    generalize w.alloc tok0 = w1 at *
    refine (take_at HA hs).mono ?_
    rintro e w5 ⟨rfl, HA5⟩
    clear HA
    have HA := HA5
    have hwb : w5.heap[w.heap.size]? = some tok0 := by rw [HA.block HS.out (by omega)]; exact HB.out
    have six' := six hwb
    obtain ⟨⟨c0, c1, c2, c3, c4, c5⟩, z0, z1, z2, z3, z4, z5⟩ := six'
    clear hwb
    rw [HC.out]
    go_wp2
    exact bodyPost_ret (v := tokV 18 0 0 0 false []) (by simp [results, Tryz.results67, go_sem, tokV, bstr_nil, c0, c1, c2, c3, c4, c5]) rfl ⟨18, rfl, by exact HA.put6 HKA.out hgl (Nat.le_refl _) _ _ _ _ _ _⟩
  have b61 : (pk l0 0 == 61) = false := by simp [e61]
  clear e61
  by_cases e33 : pk l0 0 = 33
  · have HC := Lib.hid e33
    clear b123 b125 b91 b93 b40 b41 b58 b59 b44 b38 b42 b124 b94 b36 b46 b61 e33
    go_enter Tryz.func67, Tryz.ntmps67
    go_wp2_with fail
    generalize w.alloc tok0 = w1 at *
    refine (take_at HA hs).mono ?_
    rintro e w5 ⟨rfl, HA5⟩
    clear HA
    have HA := HA5
    have hwb : w5.heap[w.heap.size]? = some tok0 := by rw [HA.block HS.out (by omega)]; exact HB.out
    have six' := six hwb
    obtain ⟨⟨c0, c1, c2, c3, c4, c5⟩, z0, z1, z2, z3, z4, z5⟩ := six'
    clear hwb
    rw [HC.out]
    go_wp2
    exact bodyPost_ret (v := tokV 19 0 0 0 false []) (by simp [results, Tryz.results67, go_sem, tokV, bstr_nil, c0, c1, c2, c3, c4, c5]) rfl ⟨19, rfl, by exact HA.put6 HKA.out hgl (Nat.le_refl _) _ _ _ _ _ _⟩
  have b33 : (pk l0 0 == 33) = false := by simp [e33]
  clear e33
  by_cases e62 : pk l0 0 = 62
  · have HC := Lib.hid e62
    clear b123 b125 b91 b93 b40 b41 b58 b59 b44 b38 b42 b124 b94 b36 b46 b61 b33 e62
    go_enter Tryz.func67, Tryz.ntmps67
    go_wp2_with fail
    generalize w.alloc tok0 = w1 at *
    refine (take_at HA hs).mono ?_
    rintro e w5 ⟨rfl, HA5⟩
    clear HA
    have HA := HA5
    have hwb : w5.heap[w.heap.size]? = some tok0 := by rw [HA.block HS.out (by omega)]; exact HB.out
    have six' := six hwb
    obtain ⟨⟨c0, c1, c2, c3, c4, c5⟩, z0, z1, z2, z3, z4, z5⟩ := six'
    clear hwb
    rw [HC.out]
    go_wp2
    exact bodyPost_ret (v := tokV 20 0 0 0 false []) (by simp [results, Tryz.results67, go_sem, tokV, bstr_nil, c0, c1, c2, c3, c4, c5]) rfl ⟨20, rfl, by exact HA.put6 HKA.out hgl (Nat.le_refl _) _ _ _ _ _ _⟩
  have b62 : (pk l0 0 == 62) = false := by simp [e62]
  clear e62
  by_cases e60 : pk l0 0 = 60
  · have HC := Lib.hid e60
    clear b123 b125 b91 b93 b40 b41 b58 b59 b44 b38 b42 b124 b94 b36 b46 b61 b33 b62 e60
    go_enter Tryz.func67, Tryz.ntmps67
    go_wp2_with fail
    generalize w.alloc tok0 = w1 at *
    refine (take_at HA hs).mono ?_
    rintro e w5 ⟨rfl, HA5⟩
    clear HA
    have HA := HA5
    have hwb : w5.heap[w.heap.size]? = some tok0 := by rw [HA.block HS.out (by omega)]; exact HB.out
    have six' := six hwb
    obtain ⟨⟨c0, c1, c2, c3, c4, c5⟩, z0, z1, z2, z3, z4, z5⟩ := six'
    clear hwb
    rw [HC.out]
    go_wp2
    exact bodyPost_ret (v := tokV 21 0 0 0 false []) (by simp [results, Tryz.results67, go_sem, tokV, bstr_nil, c0, c1, c2, c3, c4, c5]) rfl ⟨21, rfl, by exact HA.put6 HKA.out hgl (Nat.le_refl _) _ _ _ _ _ _⟩
  have b60 : (pk l0 0 == 60) = false := by simp [e60]
  clear e60
  by_cases e45 : pk l0 0 = 45
  · have HC := Lib.hid e45
    clear b123 b125 b91 b93 b40 b41 b58 b59 b44 b38 b42 b124 b94 b36 b46 b61 b33 b62 b60 e45
    go_enter Tryz.func67, Tryz.ntmps67
    go_wp2_with fail
    generalize w.alloc tok0 = w1 at *
    refine (take_at HA hs).mono ?_
    rintro e w5 ⟨rfl, HA5⟩
    clear HA
    have HA := HA5
    have hwb : w5.heap[w.heap.size]? = some tok0 := by rw [HA.block HS.out (by omega)]; exact HB.out
    have six' := six hwb
    obtain ⟨⟨c0, c1, c2, c3, c4, c5⟩, z0, z1, z2, z3, z4, z5⟩ := six'
    clear hwb
    rw [HC.out]
    go_wp2
    exact bodyPost_ret (v := tokV 22 0 0 0 false []) (by simp [results, Tryz.results67, go_sem, tokV, bstr_nil, c0, c1, c2, c3, c4, c5]) rfl ⟨22, rfl, by exact HA.put6 HKA.out hgl (Nat.le_refl _) _ _ _ _ _ _⟩
  have b45 : (pk l0 0 == 45) = false := by simp [e45]
  clear e45
  by_cases e43 : pk l0 0 = 43
  · have HC := Lib.hid e43
    clear b123 b125 b91 b93 b40 b41 b58 b59 b44 b38 b42 b124 b94 b36 b46 b61 b33 b62 b60 b45 e43
    go_enter Tryz.func67, Tryz.ntmps67
    go_wp2_with fail
    generalize w.alloc tok0 = w1 at *
    refine (take_at HA hs).mono ?_
    rintro e w5 ⟨rfl, HA5⟩
    clear HA
    have HA := HA5
    have hwb : w5.heap[w.heap.size]? = some tok0 := by rw [HA.block HS.out (by omega)]; exact HB.out
    have six' := six hwb
    obtain ⟨⟨c0, c1, c2, c3, c4, c5⟩, z0, z1, z2, z3, z4, z5⟩ := six'
    clear hwb
    rw [HC.out]
    go_wp2
    exact bodyPost_ret (v := tokV 23 0 0 0 false []) (by simp [results, Tryz.results67, go_sem, tokV, bstr_nil, c0, c1, c2, c3, c4, c5]) rfl ⟨23, rfl, by exact HA.put6 HKA.out hgl (Nat.le_refl _) _ _ _ _ _ _⟩
  have b43 : (pk l0 0 == 43) = false := by simp [e43]
  clear e43
  by_cases e47 : pk l0 0 = 47
  · have HC := Lib.hid e47
    clear b123 b125 b91 b93 b40 b41 b58 b59 b44 b38 b42 b124 b94 b36 b46 b61 b33 b62 b60 b45 b43 e47
    go_enter Tryz.func67, Tryz.ntmps67
    go_wp2_with fail
    generalize w.alloc tok0 = w1 at *
    refine (take_at HA hs).mono ?_
    rintro e w5 ⟨rfl, HA5⟩
    clear HA
    have HA := HA5
    have hwb : w5.heap[w.heap.size]? = some tok0 := by rw [HA.block HS.out (by omega)]; exact HB.out
    have six' := six hwb
    obtain ⟨⟨c0, c1, c2, c3, c4, c5⟩, z0, z1, z2, z3, z4, z5⟩ := six'
    clear hwb
    rw [HC.out]
    go_wp2
    exact bodyPost_ret (v := tokV 24 0 0 0 false []) (by simp [results, Tryz.results67, go_sem, tokV, bstr_nil, c0, c1, c2, c3, c4, c5]) rfl ⟨24, rfl, by exact HA.put6 HKA.out hgl (Nat.le_refl _) _ _ _ _ _ _⟩
  have b47 : (pk l0 0 == 47) = false := by simp [e47]
  clear e47
  by_cases e126 : pk l0 0 = 126
  · have HC := Lib.hid e126
    clear b123 b125 b91 b93 b40 b41 b58 b59 b44 b38 b42 b124 b94 b36 b46 b61 b33 b62 b60 b45 b43 b47 e126
    go_enter Tryz.func67, Tryz.ntmps67
    go_wp2_with fail
    generalize w.alloc tok0 = w1 at *
    refine (take_at HA hs).mono ?_
    rintro e w5 ⟨rfl, HA5⟩
    clear HA
    have HA := HA5
    have hwb : w5.heap[w.heap.size]? = some tok0 := by rw [HA.block HS.out (by omega)]; exact HB.out
    have six' := six hwb
    obtain ⟨⟨c0, c1, c2, c3, c4, c5⟩, z0, z1, z2, z3, z4, z5⟩ := six'
    clear hwb
    rw [HC.out]
    go_wp2
    exact bodyPost_ret (v := tokV 25 0 0 0 false []) (by simp [results, Tryz.results67, go_sem, tokV, bstr_nil, c0, c1, c2, c3, c4, c5]) rfl ⟨25, rfl, by exact HA.put6 HKA.out hgl (Nat.le_refl _) _ _ _ _ _ _⟩
  have b126 : (pk l0 0 == 126) = false := by simp [e126]
  clear e126
  go_enter Tryz.func67, Tryz.ntmps67
  go_wp2_with fail
  generalize w.alloc tok0 = w1 at *
  refine (take_at HA hs).mono ?_
  rintro e w5 ⟨rfl, HA5⟩
  clear HA
  have HA := HA5
  have hwb : w5.heap[w.heap.size]? = some tok0 := by rw [HA.block HS.out (by omega)]; exact HB.out
  have six' := six hwb
  obtain ⟨⟨c0, c1, c2, c3, c4, c5⟩, z0, z1, z2, z3, z4, z5⟩ := six'
  clear hwb
  go_wp2
  exact bodyPost_ret (v := tokV 11 0 0 0 false []) (by simp [results, Tryz.results67, go_sem, tokV, bstr_nil, c0, c1, c2, c3, c4, c5]) rfl ⟨11, rfl, by exact HA.put6 HKA.out hgl (Nat.le_refl _) _ _ _ _ _ _⟩

theorem next_url (g : Nat) (s : ByteArray) (v : Value) (op : Bool) (K : Nat) (w : World) (l0 : Its) (h : At g s v w l0 op w) (hs2 : s.size ≤ 1099511627776) (hK : l0.length < K) (h1 : pk l0 0 ≠ -1) (hsp : isSp (pk l0 0) = false) (h2 : pk l0 0 ≠ 34) (h3 : pk l0 0 ≠ 39) (h4 : pk l0 0 ≠ 35) (hn : cnts (pk l0 0) (pk l0 1) (pk l0 2) = false) (hcd : ¬ (pk l0 0 = 45 ∧ pk l0 1 = 45 ∧ pk l0 2 = 62)) (hi : idents (pk l0 0) (pk l0 1) (pk l0 2) = true) (nm : List UInt8) (l1 : Its) (o1 : Bool) (HN : Hid (nameM K l0 [] op = (nm, l1, o1))) (HC : Hid (pk l1 0 = 40)) (hu : isUrlB nm = true) :
    Calls Tryz.prog 48 #[.pointer (some ⟨g, 0, none⟩)] w fun e w' => TotN g s v w l1 e w' := by
  have hs : s.size ≤ 140737488355328 := by omega
  have HKK := Lib.hid hK
  have hgl := h.gl
  have HA := h.new tok0
  have HB := Lib.hid (alloc_tok w)
  have HKA := Lib.hid ((Kp.refl (fun k => k = g) w).alloc tok0)
  have HS := Lib.hid (Array.getElem?_eq_some_iff.1 (alloc_tok w)).1
  clear h hK
  have b0 := beq_f (a := pk l0 0) (b := -1) h1
  have b2 := beq_f (a := pk l0 0) (b := 34) h2
  have b3 := beq_f (a := pk l0 0) (b := 39) h3
  have b4 := beq_f (a := pk l0 0) (b := 35) h4
  have HU := Lib.hid hu
  clear h1 h2 h3 h4 hu
  have b5 : (pk l0 0 == 45) = true ∧ (pk l0 1 == 45) = true ∧ (pk l0 2 == 62) = false ∨ (pk l0 0 == 45) = true ∧ (pk l0 1 == 45) = false ∨ (pk l0 0 == 45) = false := by
    by_cases x1 : pk l0 0 = 45
    · by_cases x2 : pk l0 1 = 45
      · exact .inl ⟨beq_t x1, beq_t x2, beq_f fun x3 => hcd ⟨x1, x2, x3⟩⟩
      · exact .inr (.inl ⟨beq_t x1, beq_f x2⟩)
    · exact .inr (.inr (beq_f x1))
  clear hcd
  rcases b5 with ⟨b5, b6, b7⟩ | ⟨b5, b6⟩ | b5
  all_goals
      go_enter Tryz.func48, Tryz.ntmps48
      go_wp2_with fail
      generalize w.alloc tok0 = w1 at *
      go_wp2_with (first | (go_at_call 56; (with_reducible refine (peek0_at HA hs).mono ?_); rintro e w9 ⟨rfl, rfl⟩) | (go_at_call 56; (with_reducible refine (peek1_at HA hs).mono ?_); rintro e w9 ⟨rfl, rfl⟩) | (go_at_call 56; (with_reducible refine (peek2_at HA hs).mono ?_); rintro e w9 ⟨rfl, rfl⟩) | (go_at_call 56; (with_reducible refine (peek3_at HA hs).mono ?_); rintro e w9 ⟨rfl, rfl⟩) | (go_at_call 58; refine (isSpace_any _ _).mono ?_; rintro e w9 ⟨rfl, rfl⟩) | (go_at_call 61; refine (Continues_any _ _).mono ?_; rintro e w9 ⟨rfl, rfl⟩) | (go_at_call 62; refine (escapes_any _ _ _).mono ?_; rintro e w9 ⟨rfl, rfl⟩) | (go_at_call 64; refine (counts_any _ _ _ _).mono ?_; rintro e w9 ⟨rfl, rfl⟩) | (go_at_call 63; refine (identifies_any _ _ _ _).mono ?_; rintro e w9 ⟨rfl, rfl⟩))
      refine (named_url g s v op K _ l0 HA.anew hs2 HKK.out nm l1 o1 HN HC.out HU.out).mono ?_
      rintro e w5 ⟨k5, u5, id5, tx5, l5, o5, rfl, HA5, hle5⟩
      unfold tokV
      dsimp only
      have HL5 := Lib.hid hle5
      clear hle5
      have HA5 := HA.step HA5
      clear HA
      have HA := HA5
      clear HA5
      have hwb : w5.heap[w.heap.size]? = some tok0 := by rw [HA.block HS.out (by omega)]; exact HB.out
      have six' := six hwb
      obtain ⟨⟨c0, c1, c2, c3, c4, c5⟩, z0, z1, z2, z3, z4, z5⟩ := six'
      clear hwb
      go_wp2
      exact bodyPost_ret (v := tokV k5 0 0 u5 id5 tx5) (by simp [results, Tryz.results48, go_sem, tokV, bstr_nil, c0, c1, c2, c3, c4, c5]) rfl ⟨k5, u5, id5, tx5, l5, o5, rfl, by exact HA.put6 HKA.out hgl (Nat.le_refl _) _ _ _ _ _ _, HL5.out⟩

theorem next_cdc (g : Nat) (s : ByteArray) (v : Value) (op : Bool) (K : Nat) (w : World) (l0 : Its) (h : At g s v w l0 op w) (hs2 : s.size ≤ 1099511627776) (hK : l0.length < K) (h0 : pk l0 0 = 45) (h1 : pk l0 1 = 45) (h2 : pk l0 2 = 62) (hn : cnts (pk l0 0) (pk l0 1) (pk l0 2) = false)  :
    Calls Tryz.prog 48 #[.pointer (some ⟨g, 0, none⟩)] w fun e w' => e = .returned (tokV 4 0 0 0 false []) ∧ Lo g s v w (l0.tail.tail.tail) op w' := by
  have hs : s.size ≤ 140737488355328 := by omega
  have p0 : pk (l0) 0 = 45 := by exact h0
  have p1 : pk (l0.tail) 0 = 45 := by simp only [pk_tail]; exact h1
  have p2 : pk (l0.tail.tail) 0 = 62 := by simp only [pk_tail]; exact h2
  have q0 := h.sf
  have q1 := q0.tail
  have s0 := q0.asc (by omega) (by omega)
  have q2 := q1.tail
  have s1 := q1.asc (by omega) (by omega)
  have q3 := q2.tail
  have s2 := q2.asc (by omega) (by omega)
  have sm := q0.sum
  have HSF := Lib.hid q3
  have hsum : ((s.size - wsum l0 : Nat) : Int) + 3 = ((s.size - wsum (l0.tail.tail.tail) : Nat) : Int) := by omega
  have b0 := beq_f (a := pk l0 0) (b := -1) (by omega)
  have b1 : isSp (pk l0 0) = false := by simp [isSp, isNl, h0]
  have b2 := beq_f (a := pk l0 0) (b := 34) (by omega)
  have b3 := beq_f (a := pk l0 0) (b := 39) (by omega)
  have b4 := beq_f (a := pk l0 0) (b := 35) (by omega)
  have d0 := beq_t h0
  have d1 := beq_t h1
  have d2 := beq_t h2
  clear h0 p0 q0 s0 h1 p1 q1 s1 h2 p2 q2 s2 q3 sm
  have HKK := Lib.hid hK
  have hgl := h.gl
  have HA := h.new tok0
  have HB := Lib.hid (alloc_tok w)
  have HKA := Lib.hid ((Kp.refl (fun k => k = g) w).alloc tok0)
  have HS := Lib.hid (Array.getElem?_eq_some_iff.1 (alloc_tok w)).1
  clear h hK
  obtain ⟨f1, f3, y1, y3, -⟩ := HA.f
  have HB' := HB.out
  go_enter Tryz.func48, Tryz.ntmps48
  go_wp2_with fail
  clear f1 f3 y1 y3
  generalize w.alloc tok0 = w5 at *
  obtain ⟨f1, f3, y1, y3, -⟩ := HA.f
  have hwb : w5.heap[w.heap.size]? = some tok0 := HB'
  have six' := six hwb
  obtain ⟨⟨c0, c1, c2, c3, c4, c5⟩, z0, z1, z2, z3, z4, z5⟩ := six'
  clear hwb
  go_wp2_with (first | (go_at_call 56; (with_reducible refine (peek0_at HA hs).mono ?_); rintro e w9 ⟨rfl, rfl⟩) | (go_at_call 56; (with_reducible refine (peek1_at HA hs).mono ?_); rintro e w9 ⟨rfl, rfl⟩) | (go_at_call 56; (with_reducible refine (peek2_at HA hs).mono ?_); rintro e w9 ⟨rfl, rfl⟩) | (go_at_call 56; (with_reducible refine (peek3_at HA hs).mono ?_); rintro e w9 ⟨rfl, rfl⟩) | (go_at_call 58; refine (isSpace_any _ _).mono ?_; rintro e w9 ⟨rfl, rfl⟩) | (go_at_call 61; refine (Continues_any _ _).mono ?_; rintro e w9 ⟨rfl, rfl⟩) | (go_at_call 62; refine (escapes_any _ _ _).mono ?_; rintro e w9 ⟨rfl, rfl⟩) | (go_at_call 64; refine (counts_any _ _ _ _).mono ?_; rintro e w9 ⟨rfl, rfl⟩) | (go_at_call 63; refine (identifies_any _ _ _ _).mono ?_; rintro e w9 ⟨rfl, rfl⟩))
  exact bodyPost_ret (v := tokV 4 0 0 0 false []) (by simp [results, Tryz.results48, go_sem, tokV, bstr_nil, c0, c1, c2, c3, c4, c5]) rfl ⟨rfl, by have := (HA.to HSF.out).put6 HKA.out hgl (Nat.le_refl _) (.int .i64 4) (.int .i64 0) (.int .i64 0) (.int .i64 0) (.bool false) (.string (bstr [])); exact this⟩

theorem next_cdo (g : Nat) (s : ByteArray) (v : Value) (op : Bool) (K : Nat) (w : World) (l0 : Its) (h : At g s v w l0 op w) (hs2 : s.size ≤ 1099511627776) (hK : l0.length < K) (h0 : pk l0 0 = 60) (h1 : pk l0 1 = 33) (h2 : pk l0 2 = 45) (h3 : pk l0 3 = 45) (hn : cnts (pk l0 0) (pk l0 1) (pk l0 2) = false) (hi : idents (pk l0 0) (pk l0 1) (pk l0 2) = false) :
    Calls Tryz.prog 48 #[.pointer (some ⟨g, 0, none⟩)] w fun e w' => e = .returned (tokV 5 0 0 0 false []) ∧ Lo g s v w (l0.tail.tail.tail.tail) op w' := by
  have hs : s.size ≤ 140737488355328 := by omega
  have p0 : pk (l0) 0 = 60 := by exact h0
  have p1 : pk (l0.tail) 0 = 33 := by simp only [pk_tail]; exact h1
  have p2 : pk (l0.tail.tail) 0 = 45 := by simp only [pk_tail]; exact h2
  have p3 : pk (l0.tail.tail.tail) 0 = 45 := by simp only [pk_tail]; exact h3
  have q0 := h.sf
  have q1 := q0.tail
  have s0 := q0.asc (by omega) (by omega)
  have q2 := q1.tail
  have s1 := q1.asc (by omega) (by omega)
  have q3 := q2.tail
  have s2 := q2.asc (by omega) (by omega)
  have q4 := q3.tail
  have s3 := q3.asc (by omega) (by omega)
  have sm := q0.sum
  have HSF := Lib.hid q4
  have hsum : ((s.size - wsum l0 : Nat) : Int) + 4 = ((s.size - wsum (l0.tail.tail.tail.tail) : Nat) : Int) := by omega
  have b0 := beq_f (a := pk l0 0) (b := -1) (by omega)
  have b1 : isSp (pk l0 0) = false := by simp [isSp, isNl, h0]
  have b2 := beq_f (a := pk l0 0) (b := 34) (by omega)
  have b3 := beq_f (a := pk l0 0) (b := 39) (by omega)
  have b4 := beq_f (a := pk l0 0) (b := 35) (by omega)
  have b5 := beq_f (a := pk l0 0) (b := 45) (by omega)
  have d0 := beq_t h0
  have d1 := beq_t h1
  have d2 := beq_t h2
  have d3 := beq_t h3
  clear h0 p0 q0 s0 h1 p1 q1 s1 h2 p2 q2 s2 h3 p3 q3 s3 q4 sm
  have HKK := Lib.hid hK
  have hgl := h.gl
  have HA := h.new tok0
  have HB := Lib.hid (alloc_tok w)
  have HKA := Lib.hid ((Kp.refl (fun k => k = g) w).alloc tok0)
  have HS := Lib.hid (Array.getElem?_eq_some_iff.1 (alloc_tok w)).1
  clear h hK
  obtain ⟨f1, f3, y1, y3, -⟩ := HA.f
  have HB' := HB.out
  go_enter Tryz.func48, Tryz.ntmps48
  go_wp2_with fail
  clear f1 f3 y1 y3
  generalize w.alloc tok0 = w5 at *
  obtain ⟨f1, f3, y1, y3, -⟩ := HA.f
  have hwb : w5.heap[w.heap.size]? = some tok0 := HB'
  have six' := six hwb
  obtain ⟨⟨c0, c1, c2, c3, c4, c5⟩, z0, z1, z2, z3, z4, z5⟩ := six'
  clear hwb
  go_wp2_with (first | (go_at_call 56; (with_reducible refine (peek0_at HA hs).mono ?_); rintro e w9 ⟨rfl, rfl⟩) | (go_at_call 56; (with_reducible refine (peek1_at HA hs).mono ?_); rintro e w9 ⟨rfl, rfl⟩) | (go_at_call 56; (with_reducible refine (peek2_at HA hs).mono ?_); rintro e w9 ⟨rfl, rfl⟩) | (go_at_call 56; (with_reducible refine (peek3_at HA hs).mono ?_); rintro e w9 ⟨rfl, rfl⟩) | (go_at_call 58; refine (isSpace_any _ _).mono ?_; rintro e w9 ⟨rfl, rfl⟩) | (go_at_call 61; refine (Continues_any _ _).mono ?_; rintro e w9 ⟨rfl, rfl⟩) | (go_at_call 62; refine (escapes_any _ _ _).mono ?_; rintro e w9 ⟨rfl, rfl⟩) | (go_at_call 64; refine (counts_any _ _ _ _).mono ?_; rintro e w9 ⟨rfl, rfl⟩) | (go_at_call 63; refine (identifies_any _ _ _ _).mono ?_; rintro e w9 ⟨rfl, rfl⟩))
  exact bodyPost_ret (v := tokV 5 0 0 0 false []) (by simp [results, Tryz.results48, go_sem, tokV, bstr_nil, c0, c1, c2, c3, c4, c5]) rfl ⟨rfl, by have := (HA.to HSF.out).put6 HKA.out hgl (Nat.le_refl _) (.int .i64 5) (.int .i64 0) (.int .i64 0) (.int .i64 0) (.bool false) (.string (bstr [])); exact this⟩

theorem next_sign (g : Nat) (s : ByteArray) (v : Value) (op : Bool) (K : Nat) (w : World) (l0 : Its) (h : At g s v w l0 op w) (hs2 : s.size ≤ 1099511627776) (hK : l0.length < K) (h1 : pk l0 0 ≠ -1) (hsp : isSp (pk l0 0) = false) (h2 : pk l0 0 ≠ 34) (h3 : pk l0 0 ≠ 39) (hn : cnts (pk l0 0) (pk l0 1) (pk l0 2) = false) (hi : idents (pk l0 0) (pk l0 1) (pk l0 2) = false)
    (D : ((pk l0 0 == 35) = true ∧ (pk l0 0 == 45) = false ∧ (pk l0 0 == 60) = false ∧ (pk l0 0 == 64) = false ∧ conts (pk l0 1) = false ∧ escs (pk l0 1) (pk l0 2) = false)
      ∨ ((pk l0 0 == 35) = false ∧ (pk l0 0 == 45) = true ∧ (pk l0 0 == 60) = false ∧ (pk l0 0 == 64) = false ∧ ((pk l0 1 == 45) = false ∧ True ∨ (pk l0 1 == 45) = true ∧ (pk l0 2 == 62) = false))
      ∨ ((pk l0 0 == 35) = false ∧ (pk l0 0 == 45) = false ∧ (pk l0 0 == 60) = true ∧ (pk l0 0 == 64) = false ∧ ((pk l0 1 == 33) = false ∧ True ∨ (pk l0 1 == 33) = true ∧ ((pk l0 2 == 45) = false ∧ True ∨ (pk l0 2 == 45) = true ∧ (pk l0 3 == 45) = false)))
      ∨ ((pk l0 0 == 35) = false ∧ (pk l0 0 == 45) = false ∧ (pk l0 0 == 60) = false ∧ (pk l0 0 == 64) = true ∧ idents (pk l0 1) (pk l0 2) (pk l0 3) = false)
      ∨ ((pk l0 0 == 35) = false ∧ (pk l0 0 == 45) = false ∧ (pk l0 0 == 60) = false ∧ (pk l0 0 == 64) = false)) :
    Calls Tryz.prog 48 #[.pointer (some ⟨g, 0, none⟩)] w fun e w' => ∃ k, e = .returned (tokV k 0 0 0 false []) ∧ Lo g s v w l0.tail op w' := by
  have hs : s.size ≤ 140737488355328 := by omega
  have HKK := Lib.hid hK
  have hgl := h.gl
  have HA := h.new tok0
  have HB := Lib.hid (alloc_tok w)
  have HKA := Lib.hid ((Kp.refl (fun k => k = g) w).alloc tok0)
  have HS := Lib.hid (Array.getElem?_eq_some_iff.1 (alloc_tok w)).1
  clear h hK
  have b0 := beq_f (a := pk l0 0) (b := -1) h1
  have b2 := beq_f (a := pk l0 0) (b := 34) h2
  have b3 := beq_f (a := pk l0 0) (b := 39) h3
  clear h1 h2 h3
  rcases D with ⟨a1, a2, a3, a4, a5, a6⟩ | ⟨a1, a2, a3, a4, ⟨a5, -⟩ | ⟨a5, a6⟩⟩ | ⟨a1, a2, a3, a4, ⟨a5, -⟩ | ⟨a5, ⟨a6, -⟩ | ⟨a6, a7⟩⟩⟩ | ⟨a1, a2, a3, a4, a5⟩ | ⟨a1, a2, a3, a4⟩
  all_goals
      go_enter Tryz.func48, Tryz.ntmps48
      go_wp2_with fail
      generalize w.alloc tok0 = w1 at *
      go_wp2_with (first | (go_at_call 56; (with_reducible refine (peek0_at HA hs).mono ?_); rintro e w9 ⟨rfl, rfl⟩) | (go_at_call 56; (with_reducible refine (peek1_at HA hs).mono ?_); rintro e w9 ⟨rfl, rfl⟩) | (go_at_call 56; (with_reducible refine (peek2_at HA hs).mono ?_); rintro e w9 ⟨rfl, rfl⟩) | (go_at_call 56; (with_reducible refine (peek3_at HA hs).mono ?_); rintro e w9 ⟨rfl, rfl⟩) | (go_at_call 58; refine (isSpace_any _ _).mono ?_; rintro e w9 ⟨rfl, rfl⟩) | (go_at_call 61; refine (Continues_any _ _).mono ?_; rintro e w9 ⟨rfl, rfl⟩) | (go_at_call 62; refine (escapes_any _ _ _).mono ?_; rintro e w9 ⟨rfl, rfl⟩) | (go_at_call 64; refine (counts_any _ _ _ _).mono ?_; rintro e w9 ⟨rfl, rfl⟩) | (go_at_call 63; refine (identifies_any _ _ _ _).mono ?_; rintro e w9 ⟨rfl, rfl⟩))
      refine (sign_tot g s v op _ l0 HA.anew hs).mono ?_
      rintro e w5 ⟨k5, rfl, HA5⟩
      unfold tokV
      dsimp only
      have HA5 := HA.step HA5
      clear HA
      have HA := HA5
      clear HA5
      have hwb : w5.heap[w.heap.size]? = some tok0 := by rw [HA.block HS.out (by omega)]; exact HB.out
      have six' := six hwb
      obtain ⟨⟨c0, c1, c2, c3, c4, c5⟩, z0, z1, z2, z3, z4, z5⟩ := six'
      clear hwb
      go_wp2
      exact bodyPost_ret (v := tokV k5 0 0 0 false []) (by simp [results, Tryz.results48, go_sem, tokV, bstr_nil, c0, c1, c2, c3, c4, c5]) rfl ⟨k5, rfl, by exact HA.put6 HKA.out hgl (Nat.le_refl _) _ _ _ _ _ _⟩

end Go.Proofs.YtkaejhdncohgpaaGreatFmt

/- The reference's lexer, whatever the text: next, comment. Condition: the text has at most 2^40 bytes. -/
namespace Go.Proofs.YtkaejhdncohgpaaGreatFmt
set_option linter.all false
open Go.RowKit
set_option maxRecDepth 100000
set_option maxHeartbeats 1000000

theorem next_tot (g : Nat) (s : ByteArray) (v : Value) (op : Bool) (K : Nat) (w : World) (l0 : Its) (h : At g s v w l0 op w) (hs2 : s.size ≤ 1099511627776) (hK : l0.length < K) :
    Calls Tryz.prog 48 #[.pointer (some ⟨g, 0, none⟩)] w fun e w' => TotX g s v w l0 e w' := by
  have hs : s.size ≤ 140737488355328 := by omega
  have hK0 : 0 < K := by omega
  by_cases h1 : pk l0 0 = -1
  · exact (next_eof g s v op K w l0 h hs hK h1).mono fun e w' q => ⟨0, 0, false, [], l0, op, q.1, q.2, Nat.le_refl _, .inl rfl⟩
  have htl := tail_lt l0 h1
  by_cases hsp : isSp (pk l0 0) = true
  · have hy := spM_yes l0 hsp
    have hlt : (spM l0).length < l0.length := by rw [hy.1]; exact Nat.lt_of_le_of_lt (spM_le _) hy.2
    exact (next_space g s v op K w l0 h hs hK hsp).mono fun e w' q => ⟨38, 0, false, [], spM l0, op, q.1, q.2, by omega, .inr hlt⟩
  have hsp' : isSp (pk l0 0) = false := by simpa using hsp
  by_cases hq : pk l0 0 = 34 ∨ pk l0 0 = 39
  · have hle := quotM_le K (pk l0 0) l0.tail [] op
    rcases e : quotM K (pk l0 0) l0.tail [] op with ⟨k1, x1, l1, o1⟩
    rw [e] at hle
    dsimp only at hle
    exact (next_quoted g s v op K w l0 h hs hK hq _ _ _ _ (Lib.hid e)).mono fun e w' q => ⟨_, 0, false, _, _, _, q.1, q.2, by omega, .inr (by omega)⟩
  have h2 : pk l0 0 ≠ 34 := fun e => hq (.inl e)
  have h3 : pk l0 0 ≠ 39 := fun e => hq (.inr e)
  by_cases h4 : pk l0 0 = 35
  · have hn : cnts (pk l0 0) (pk l0 1) (pk l0 2) = false := by simp [cnts, isDig, h4]
    have hi : idents (pk l0 0) (pk l0 1) (pk l0 2) = false := by simp [idents, starts, escs, h4]
    by_cases hd : conts (pk l0 1) = true ∨ conts (pk l0 1) = false ∧ escs (pk l0 1) (pk l0 2) = true
    · have hle := nameM_le K l0.tail [] op
      rcases e : nameM K l0.tail [] op with ⟨x1, l1, o1⟩
      rw [e] at hle
      dsimp only at hle
      exact (next_hash g s v op K w l0 h hs hK h4 hd _ _ _ (Lib.hid e)).mono fun e w' q => ⟨28, 0, _, _, _, _, q.1, q.2, by omega, .inr (by omega)⟩
    · have d1 : conts (pk l0 1) = false := by
        cases hc : conts (pk l0 1)
        · rfl
        · exact absurd (.inl hc) hd
      have d2 : escs (pk l0 1) (pk l0 2) = false := by
        cases hc : escs (pk l0 1) (pk l0 2)
        · rfl
        · exact absurd (.inr ⟨d1, hc⟩) hd
      exact (next_sign g s v op K w l0 h hs2 hK h1 hsp' h2 h3 hn hi (.inl ⟨beq_t h4, beq_f (by omega), beq_f (by omega), beq_f (by omega), d1, d2⟩)).mono fun e w' ⟨k, q1, q2⟩ => ⟨k, 0, false, [], _, _, q1, q2, by omega, .inr htl⟩
  by_cases hn : cnts (pk l0 0) (pk l0 1) (pk l0 2) = true
  · have hlt := numM_lt K l0 op hn
    rcases e : numM K l0 op with ⟨k1, u1, l1, o1⟩
    rw [e] at hlt
    dsimp only at hlt
    exact (next_num g s v op K w l0 h hs hK h1 hsp' h2 h3 h4 hn _ _ _ _ (Lib.hid e)).mono fun e w' q => ⟨_, _, false, [], _, _, q.1, q.2, by omega, .inr hlt⟩
  have hn' : cnts (pk l0 0) (pk l0 1) (pk l0 2) = false := by simpa using hn
  by_cases hcd : pk l0 0 = 45 ∧ pk l0 1 = 45 ∧ pk l0 2 = 62
  · have t1 := tail_le l0.tail
    have t2 := tail_le l0.tail.tail
    exact (next_cdc g s v op K w l0 h hs2 hK hcd.1 hcd.2.1 hcd.2.2 hn').mono fun e w' q => ⟨4, 0, false, [], _, _, q.1, q.2, by omega, .inr (by omega)⟩
  by_cases hi : idents (pk l0 0) (pk l0 1) (pk l0 2) = true
  · have hlt := nameM_lt K l0 [] op hK0 (idents_first l0 hi)
    have HN := Lib.hid (show nameM K l0 [] op = ((nameM K l0 [] op).1, (nameM K l0 [] op).2.1, (nameM K l0 [] op).2.2) from rfl)
    generalize (nameM K l0 [] op).1 = nm at *
    generalize (nameM K l0 [] op).2.1 = l1 at *
    generalize (nameM K l0 [] op).2.2 = o1 at *
    by_cases hc : pk l1 0 = 40
    · have t1 := tail_le l1
      cases hu : isUrlB nm
      · exact (next_func g s v op K w l0 h hs hK h1 hsp' h2 h3 h4 hn' hcd hi nm l1 o1 HN (Lib.hid hc) hu).mono fun e w' q => ⟨27, 0, false, _, _, _, q.1, q.2, by omega, .inr (by omega)⟩
      · exact (next_url g s v op K w l0 h hs2 hK h1 hsp' h2 h3 h4 hn' hcd hi nm l1 o1 HN (Lib.hid hc) hu).mono fun e w' ⟨k, u, id, tx, l', o', q1, q2, q3⟩ => ⟨k, u, id, tx, l', o', q1, q2, by omega, .inr (by omega)⟩
    · exact (next_ident g s v op K w l0 h hs hK h1 hsp' h2 h3 h4 hn' hcd hi nm l1 o1 HN (by simpa using hc)).mono fun e w' q => ⟨29, 0, false, _, _, _, q.1, q.2, by omega, .inr (by omega)⟩
  have hi' : idents (pk l0 0) (pk l0 1) (pk l0 2) = false := by simpa using hi
  by_cases hco : pk l0 0 = 60 ∧ pk l0 1 = 33 ∧ pk l0 2 = 45 ∧ pk l0 3 = 45
  · have t1 := tail_le l0.tail
    have t2 := tail_le l0.tail.tail
    have t3 := tail_le l0.tail.tail.tail
    exact (next_cdo g s v op K w l0 h hs2 hK hco.1 hco.2.1 hco.2.2.1 hco.2.2.2 hn' hi').mono fun e w' q => ⟨5, 0, false, [], _, _, q.1, q.2, by omega, .inr (by omega)⟩
  by_cases ha : pk l0 0 = 64 ∧ idents (pk l0 1) (pk l0 2) (pk l0 3) = true
  · have hle := nameM_le K l0.tail [] op
    rcases e : nameM K l0.tail [] op with ⟨x1, l1, o1⟩
    rw [e] at hle
    dsimp only at hle
    exact (next_at g s v op K w l0 h hs hK ha.1 ha.2 _ _ _ (Lib.hid e)).mono fun e w' q => ⟨1, 0, false, _, _, _, q.1, q.2, by omega, .inr (by omega)⟩
  have b1 := beq_f h4
  refine (next_sign g s v op K w l0 h hs2 hK h1 hsp' h2 h3 hn' hi' (.inr ?_)).mono fun e w' ⟨k, q1, q2⟩ => ⟨k, 0, false, [], _, _, q1, q2, by omega, .inr htl⟩
  by_cases x1 : pk l0 0 = 45
  · refine .inl ⟨b1, beq_t x1, beq_f (by omega), beq_f (by omega), ?_⟩
    by_cases x2 : pk l0 1 = 45
    · exact .inr ⟨beq_t x2, beq_f fun x3 => hcd ⟨x1, x2, x3⟩⟩
    · exact .inl ⟨beq_f x2, trivial⟩
  by_cases x2 : pk l0 0 = 60
  · refine .inr (.inl ⟨b1, beq_f x1, beq_t x2, beq_f (by omega), ?_⟩)
    by_cases x3 : pk l0 1 = 33
    · refine .inr ⟨beq_t x3, ?_⟩
      by_cases x4 : pk l0 2 = 45
      · exact .inr ⟨beq_t x4, beq_f fun x5 => hco ⟨x2, x3, x4, x5⟩⟩
      · exact .inl ⟨beq_f x4, trivial⟩
    · exact .inl ⟨beq_f x3, trivial⟩
  by_cases x3 : pk l0 0 = 64
  · refine .inr (.inr (.inl ⟨b1, beq_f x1, beq_f x2, beq_t x3, ?_⟩))
    cases hx : idents (pk l0 1) (pk l0 2) (pk l0 3)
    · rfl
    · exact absurd ⟨x3, hx⟩ ha
  · exact .inr (.inr (.inr ⟨b1, beq_f x1, beq_f x2, beq_f x3⟩))
end Go.Proofs.YtkaejhdncohgpaaGreatFmt

/- The reference's lexer, whatever the text: comments. Condition: the text has at most 2^40 bytes. -/
namespace Go.Proofs.YtkaejhdncohgpaaGreatFmt
set_option linter.all false
open Go.RowKit
set_option maxRecDepth 100000
set_option maxHeartbeats 1000000

theorem info166 : (Tryz.prog.info? 166).map (fun i => (i.zero, i.size, i.bytes)) = some (some (.agg #[.int .i64 0, .int .i64 0]), 2, 16) := by kernel_rfl
theorem At.hop {g : Nat} {s : ByteArray} {v : Value} {w0 wr w' : World} {l : Its} {o : Bool} (h : At g s v w0 l o wr) (e : w'.heap[g]? = wr.heap[g]?) : At g s v w' l o w' := by
  obtain ⟨q, h1, h2, h3, h4⟩ := h
  exact ⟨q, h1, h2, Lib.hid (by have := h3.out; unfold Lx at *; rw [e]; exact this), Lib.hid (Kp.refl _ _)⟩
theorem At.put2 {g : Nat} {s : ByteArray} {v : Value} {w0 wr : World} {l : Its} {o : Bool} (h : At g s v w0 l o wr) (u : Value) : At g s u w0 l o (wr.setCell ⟨g, 2, none⟩ u) := by
  obtain ⟨q, h1, h2, h3, h4⟩ := h
  refine ⟨q, h1, h2, Lib.hid ?_, Lib.hid (h4.out.cell 2 _)⟩
  have := h3.out
  unfold Lx at *
  simp [World.setCell, Array.getElem?_modify, this]
theorem At.z2 {g : Nat} {s : ByteArray} {v : Value} {w0 wr : World} {l : Its} {o : Bool} (h : At g s v w0 l o wr) : wr.frozen? ⟨g, 2, none⟩ = false := by
  obtain ⟨q, h1, h2, h3, h4⟩ := h
  exact h3.out.f.2.2.2.2.2.1
theorem frz_hop {w5 w6 : World} {X : Obj} {g : Nat} (i : Nat) (e : w6.heap[g]? = ((w5.alloc X).drew).heap[g]?) (hg : g < w5.heap.size) (h : w5.frozen? ⟨g, i, none⟩ = false) : w6.frozen? ⟨g, i, none⟩ = false := by
  have e2 : w6.heap[g]? = w5.heap[g]? := by rw [e]; exact heap_alloc_old _ _ hg
  have e3 : w6.frozen? ⟨g, i, none⟩ = w5.frozen? ⟨g, i, none⟩ := by simp [World.frozen?, e2]
  rw [e3, h]
theorem cel_hop {w5 w6 : World} {X : Obj} {g : Nat} {u : Value} (i : Nat) (e : w6.heap[g]? = ((w5.alloc X).drew).heap[g]?) (hg : g < w5.heap.size) (h : w5.cell? ⟨g, i, none⟩ = some u) : w6.cell? ⟨g, i, none⟩ = some u := by
  have e2 : w6.heap[g]? = w5.heap[g]? := by rw [e]; exact heap_alloc_old _ _ hg
  have e3 : w6.cell? ⟨g, i, none⟩ = w5.cell? ⟨g, i, none⟩ := by simp [World.cell?, e2]
  rw [e3, h]
/-- The lexer, and its comments. -/
structure Cm (g : Nat) (s : ByteArray) (v0 : Value) (w0 : World) (N : Nat) (v : Value) (n : Nat) (l : Its) (o : Bool) (wr : World) : Prop where
  a : At g s v wr l o wr
  own : ∃ xs, wr.ownsRow (g + 1) 166 2 v n xs
  kp : Kp (fun k => k = g ∨ v0.ownBlock = some k) w0 wr
  fr : v.ownBlock = v0.ownBlock ∨ ∀ k, v.ownBlock = some k → w0.heap.size ≤ k
  le : n + l.length ≤ N
theorem Cm.at {g : Nat} {s : ByteArray} {v0 : Value} {w0 : World} {N : Nat} {v : Value} {n : Nat} {l l' : Its} {o o' : Bool} {wr w' : World} (h : Cm g s v0 w0 N v n l o wr) (k : At g s v wr l' o' w') (hl : l'.length ≤ l.length) : Cm g s v0 w0 N v n l' o' w' := by
  obtain ⟨xs, hx⟩ := h.own
  refine ⟨k.anew, ⟨xs, own_kp hx k.kp fun k hk => by have := (own_lt hx k hk).1; omega⟩, ?_, h.fr, by have := h.le; omega⟩
  exact h.kp.trans' k.kp fun i hi hg => .inl hg

theorem Cm.app {g : Nat} {s : ByteArray} {v0 : Value} {w0 : World} {N : Nat} {v : Value} {n : Nat} {l : Its} {o : Bool} {wr w6 : World} (h : Cm g s v0 w0 N v n l o wr) {X : Obj} {gg cap : Nat} {xs' : List Value} (ho : w6.ownsRow (g + 1) 166 2 (.slice (some ⟨gg, 0, none⟩) (n + 1) cap) (n + 1) xs')
    (hg : ((wr.alloc X).drew).grownBy w6 v.ownBlock) (hat : v.ownBlock = some gg ∨ gg = wr.heap.size + 1) (hle : n + 1 + l.length ≤ N) : Cm g s v0 w0 N (.slice (some ⟨gg, 0, none⟩) (n + 1) cap) (n + 1) l o (w6.setCell ⟨g, 2, none⟩ (.slice (some ⟨gg, 0, none⟩) (n + 1) cap)) := by
  obtain ⟨xs, hx⟩ := h.own
  have hvg : v.ownBlock ≠ some g := fun e => by have := (own_lt hx g e).1; omega
  have hgg := (own_lt ho gg rfl).1
  have hgl := h.a.gl
  have e : w6.heap[g]? = wr.heap[g]? := by
    rw [hg.block g (by simp; omega) (Ne.symm hvg)]; exact heap_alloc_old _ _ hgl
  have hks := h.kp.size
  refine ⟨((h.a.hop e).put2 _).anew, ⟨xs', own_set ho ⟨g, 2, none⟩ (fun hh => absurd (show gg = g by simpa [Value.ownBlock] using hh) (by omega)) _⟩, ?_, ?_, hle⟩
  · have k2 : Kp (fun k => k = g ∨ v.ownBlock = some k) wr (w6.setCell ⟨g, 2, none⟩ (.slice (some ⟨gg, 0, none⟩) (n + 1) cap)) :=
      ((((Kp.refl (fun k => k = g ∨ v.ownBlock = some k) wr).alloc X).drew).grown hg (fun k hk => .inl (.inr hk))).setCell (p := ⟨g, 2, none⟩) (.inl (.inl rfl)) _
    refine h.kp.trans' k2 fun i hi hs => ?_
    rcases hs with rfl | hs
    · exact .inl rfl
    · rcases h.fr with hf | hf
      · exact .inr (by rw [← hf]; exact hs)
      · exact absurd (hf i hs) (by omega)
  · rcases hat with hat | hat
    · rcases h.fr with hf | hf
      · exact .inl (by rw [← hf, hat]; rfl)
      · exact .inr fun k hk => hf k (by rw [hat]; exact hk)
    · refine .inr fun k hk => ?_
      have : gg = k := by simpa [Value.ownBlock] using hk
      omega

/-- What comment leaves. -/
def CmR (g : Nat) (s : ByteArray) (v : Value) (w : World) (N : Nat) (l0 : Its) (e : Ending) (w' : World) : Prop := ∃ v' n' l' o', e = .returned (.tuple #[]) ∧ Cm g s v w N v' n' l' o' w' ∧ l'.length ≤ l0.length
theorem comment_tot (g : Nat) (s : ByteArray) (v : Value) (n0 : Nat) (w : World) (l0 : Its) (op : Bool) (h : Cm g s v w (n0 + l0.length) v n0 l0 op w) (hs2 : s.size ≤ 1099511627776) (hn : n0 ≤ 1099511627776) :
    Calls Tryz.prog 47 #[.pointer (some ⟨g, 0, none⟩)] w fun e w' => CmR g s v w (n0 + l0.length) l0 e w' := by
  have hs : s.size ≤ 140737488355328 := by omega
  have HC := Lib.hid h
  have HLS := Lib.hid (show l0.length ≤ s.size from h.a.len)
  clear h
  go_enter Tryz.func47, Tryz.ntmps47
  go_wp2
  go_loopg [] (s.size + 1) (fun k wr => ∃ v' n' l' o', Hid (Cm g s v w (n0 + l0.length) v' n' l' o' wr) ∧ Hid (l'.length < k) ∧ Hid (l'.length ≤ l0.length))
  case atStart => exact ⟨v, n0, l0, op, HC, Lib.hid (by have := HLS.out; omega), Lib.hid (Nat.le_refl _)⟩
  case round =>
    obtain ⟨v', n', l, o, HC, HN, HL⟩ := hrel
    have HA := Lib.hid HC.out.a
    cases gk with
    | zero => exact absurd HN.out (by omega)
    | succ gko =>
      cases b1 : (pk l 0 == 47)
      case false =>
        go_wp2_with (first | (go_at_call 56; (with_reducible refine (peek0_at HA.out hs).mono ?_); rintro e w9 ⟨rfl, rfl⟩))
        go_end0
        exact ⟨v', n', l, o, rfl, HC.out, HL.out⟩
      case true =>
      cases b2 : (pk l 1 == 42)
      case false =>
        go_wp2_with (first | (go_at_call 56; first | (with_reducible refine (peek0_at HA.out hs).mono ?_; rintro e w9 ⟨rfl, rfl⟩) | (with_reducible refine (peek1_at HA.out hs).mono ?_; rintro e w9 ⟨rfl, rfl⟩)))
        go_end0
        exact ⟨v', n', l, o, rfl, HC.out, HL.out⟩
      case true =>
        have q0 := HA.out.sf
        have q1 := q0.tail
        have q2 := q1.tail
        have p0 : pk l 0 = 47 := beq_iff_eq.1 b1
        have p1 : pk l.tail 0 = 42 := by rw [pk_tail]; exact beq_iff_eq.1 b2
        have s0 := q0.asc (by omega) (by omega)
        have s1 := q1.asc (by omega) (by omega)
        have sm := q0.sum
        have HT2 := Lib.hid (show l.tail.tail.length + 2 = l.length by
          have a1 := tail_lt l (by omega)
          have a2 := tail_lt l.tail (by omega)
          have a3 : l.tail.length = l.length - 1 := List.length_tail
          have a4 : l.tail.tail.length = l.tail.length - 1 := List.length_tail
          omega)
        have hsum : ((s.size - wsum l : Nat) : Int) + 2 = ((s.size - wsum l.tail.tail : Nat) : Int) := by omega
        have HA2 := Lib.hid (HA.out.to q2)
        have HC2 := Lib.hid (HC.out.at HA2.out (by have := HT2.out; omega))
        obtain ⟨f1, f3, y1, y3, -⟩ := HA.out.f
        clear q0 q1 q2 s0 s1 sm p0 p1
        go_wp2_with (first | (go_at_call 56; first | (with_reducible refine (peek0_at HA.out hs).mono ?_; rintro e w9 ⟨rfl, rfl⟩) | (with_reducible refine (peek1_at HA.out hs).mono ?_; rintro e w9 ⟨rfl, rfl⟩)))
        clear f1 f3 y1 y3
        generalize w9.setCell ⟨g, 1, none⟩ (.int .i64 ((s.size - wsum l.tail.tail : Nat) : Int)) = wA at *
        go_loopg [] (s.size + 1) (fun k wr => ∃ l3, Hid (Cm g s v w (n0 + l0.length) v' n' l3 o wr) ∧ Hid (l3.length < k) ∧ Hid (l3.length ≤ l.tail.tail.length))
        case atStart => exact ⟨l.tail.tail, HC2, Lib.hid (by have := HT2.out; have := HL.out; have := HLS.out; omega), Lib.hid (Nat.le_refl _)⟩
        case round =>
          obtain ⟨l3, HC3, HN3, HL3⟩ := hrel
          have HA3 := Lib.hid HC3.out.a
          cases gk with
          | zero => exact absurd HN3.out (by omega)
          | succ gq =>
          have hh : ((pk l3 0 == 42) = true ∧ (pk l3 1 == 47) = true) ∨ ((pk l3 0 == 42) = true ∧ (pk l3 1 == 47) = false) ∨ (pk l3 0 == 42) = false := by
            cases (pk l3 0 == 42) <;> cases (pk l3 1 == 47) <;> simp
          rcases hh with ⟨d1, d2⟩ | hh
          · have q0 := HA3.out.sf
            have q1 := q0.tail
            have q2 := q1.tail
            have p0 : pk l3 0 = 42 := beq_iff_eq.1 d1
            have p1 : pk l3.tail 0 = 47 := by rw [pk_tail]; exact beq_iff_eq.1 d2
            have s0 := q0.asc (by omega) (by omega)
            have s1 := q1.asc (by omega) (by omega)
            have sm := q0.sum
            have hsum3 : ((s.size - wsum l3 : Nat) : Int) + 2 = ((s.size - wsum l3.tail.tail : Nat) : Int) := by omega
            have HTT := Lib.hid (show l3.tail.tail.length ≤ l3.length from Nat.le_trans (tail_le l3.tail) (tail_le l3))
            have HA5 := Lib.hid (HA3.out.to q2)
            have HC5 := Lib.hid (HC3.out.at HA5.out HTT.out)
            obtain ⟨f1, f3, y1, y3, -⟩ := HA3.out.f
            clear q0 q1 q2 s0 s1 sm p0 p1
            go_wp2_with (first | (go_at_call 56; first | (with_reducible refine (peek0_at HA3.out hs).mono ?_; rintro e w9 ⟨rfl, rfl⟩) | (with_reducible refine (peek1_at HA3.out hs).mono ?_; rintro e w9 ⟨rfl, rfl⟩)))
            generalize w9.setCell ⟨g, 1, none⟩ (.int .i64 ((s.size - wsum l3.tail.tail : Nat) : Int)) = w5 at *
            clear f1 f3 y1 y3
            have HXA := Lib.hid HC5.out.a
            obtain ⟨xs, hown⟩ := HC5.out.own
            have HFB : Hid (∀ k, v'.ownBlock = some k → ¬ k = g) := Lib.hid (fun k hk => by have := (own_lt hown k hk).1; omega)
            have hvg : v'.ownBlock ≠ some g := fun e => HFB.out _ e rfl
            have HNN := Lib.hid (show n' + 1 ≤ 4398046511104 by have := HC5.out.le; have := HLS.out; omega)
            have hgl := HXA.out.gl
            obtain ⟨f1, f3, y1, y3, -⟩ := HXA.out.f
            have f2 := HXA.out.f2
            have y2 := HXA.out.z2
            have HOW := Lib.hid hown
            obtain ⟨i0, hi0, hz0, hz1, hz2⟩ := info_parts info166
            have hg2 : w5.drew.cell? ⟨g, 2, none⟩ = some v' := f2
            have hg1 : w5.drew.cell? ⟨g, 1, none⟩ = some (.int .i64 ((s.size - wsum (l3.tail.tail) : Nat) : Int)) := f1
            go_region_law
              ((refine step_append_lies _ (by rfl) _ _ _ (by rfl) (g + 1) 166 i0 _ 2 16 Tryz.underlying91 hi0 hz0 hz1 hz2 rfl (by omega) v' n' xs (by rfl) ((HOW.out.alloc _).drew)
                  ⟨w5.heap.size, 0, none⟩ 1 1 [.int .i64 ((s.size - wsum l : Nat) : Int), .int .i64 ((s.size - wsum (l3.tail.tail) : Nat) : Int)] (by rfl) (by rfl) (World.news_of_block (cs := #[.int .i64 ((s.size - wsum l : Nat) : Int), .int .i64 ((s.size - wsum (l3.tail.tail) : Nat) : Int)]) (t := 166) (fr := (0, 0)) (heap_alloc_new w5 _)) (by simp [Value.oneCell'])
                  (by omega) (by have := HNN.out; unfold maxLen; omega) (by have := HNN.out; omega) (by simp; omega) (w5.heap.size + 1) (by simp) ?_; intro gg cap w6 hown1 hgrow hat hlt; have hz6 := frz_hop 2 (hgrow.block g (by simp; omega) (Ne.symm hvg)) hgl y2; have hc6 := cel_hop 2 (hgrow.block g (by simp; omega) (Ne.symm hvg)) hgl f2))
            all_goals
              have HF := Lib.hid (HC5.out.app hown1 hgrow hat (by have := HC.out.le; have := HT2.out; have := HL3.out; have := HTT.out; omega))
              clear hown1 hgrow hat hlt hz6 hc6
              go_wp2
              go_roundg gko
              case rel => exact ⟨_, _, _, _, HF, Lib.hid (by have := HN.out; have := HT2.out; have := HL3.out; have := HTT.out; omega), Lib.hid (by have := HL.out; have := HT2.out; have := HL3.out; have := HTT.out; omega)⟩
              case measure => omega
          · cases d3 : (pk l3 0 == -1)
            · have HTL := Lib.hid (tail_lt l3 (by simpa using d3))
              rcases hh with ⟨d1, d2⟩ | d1
              all_goals
                go_wp2_with (first | (go_at_call 56; first | (with_reducible refine (peek0_at HA3.out hs).mono ?_; rintro e w9 ⟨rfl, rfl⟩) | (with_reducible refine (peek1_at HA3.out hs).mono ?_; rintro e w9 ⟨rfl, rfl⟩)))
                refine (take_at HA3.out hs).mono ?_
                rintro e w4 ⟨rfl, hA4⟩
                have HC4 := Lib.hid (HC3.out.at hA4 (by have := HTL.out; omega))
                clear hA4
                go_wp2
                go_roundg gq
                case rel => exact ⟨l3.tail, HC4, Lib.hid (by have := HTL.out; have := HN3.out; omega), Lib.hid (by have := HTL.out; have := HL3.out; omega)⟩
                case measure => omega
            · rcases hh with ⟨d1, d2⟩ | d1
              all_goals
                have z3 := beq_iff_eq.1 d3
                go_wp2_with (first | (go_at_call 56; first | (with_reducible refine (peek0_at HA3.out hs).mono ?_; rintro e w9 ⟨rfl, rfl⟩) | (with_reducible refine (peek1_at HA3.out hs).mono ?_; rintro e w9 ⟨rfl, rfl⟩)))
                refine (take_at HA3.out hs).mono ?_
                rintro e w4 ⟨rfl, hA4⟩
                have HC4 := Lib.hid (HC3.out.at hA4 (tail_le l3))
                obtain ⟨f1, f3, y1, y3, -⟩ := hA4.f
                have HC5 := Lib.hid (HC4.out.at ((HC4.out.a).opn true) (Nat.le_refl _))
                clear hA4
                go_wp2_with fail
                generalize w4.setCell ⟨g, 3, none⟩ (.bool true) = w5 at *
                clear f1 f3 y1 y3
                have HXA := Lib.hid HC5.out.a
                obtain ⟨xs, hown⟩ := HC5.out.own
                have HFB : Hid (∀ k, v'.ownBlock = some k → ¬ k = g) := Lib.hid (fun k hk => by have := (own_lt hown k hk).1; omega)
                have hvg : v'.ownBlock ≠ some g := fun e => HFB.out _ e rfl
                have HNN := Lib.hid (show n' + 1 ≤ 4398046511104 by have := HC5.out.le; have := HLS.out; omega)
                have hgl := HXA.out.gl
                obtain ⟨f1, f3, y1, y3, -⟩ := HXA.out.f
                have f2 := HXA.out.f2
                have y2 := HXA.out.z2
                have HOW := Lib.hid hown
                obtain ⟨i0, hi0, hz0, hz1, hz2⟩ := info_parts info166
                have hg2 : w5.drew.cell? ⟨g, 2, none⟩ = some v' := f2
                have hg1 : w5.drew.cell? ⟨g, 1, none⟩ = some (.int .i64 ((s.size - wsum (l3.tail) : Nat) : Int)) := f1
                go_region_law
                  ((refine step_append_lies _ (by rfl) _ _ _ (by rfl) (g + 1) 166 i0 _ 2 16 Tryz.underlying91 hi0 hz0 hz1 hz2 rfl (by omega) v' n' xs (by rfl) ((HOW.out.alloc _).drew)
                      ⟨w5.heap.size, 0, none⟩ 1 1 [.int .i64 ((s.size - wsum l : Nat) : Int), .int .i64 ((s.size - wsum (l3.tail) : Nat) : Int)] (by rfl) (by rfl) (World.news_of_block (cs := #[.int .i64 ((s.size - wsum l : Nat) : Int), .int .i64 ((s.size - wsum (l3.tail) : Nat) : Int)]) (t := 166) (fr := (0, 0)) (heap_alloc_new w5 _)) (by simp [Value.oneCell'])
                      (by omega) (by have := HNN.out; unfold maxLen; omega) (by have := HNN.out; omega) (by simp; omega) (w5.heap.size + 1) (by simp) ?_; intro gg cap w6 hown1 hgrow hat hlt; have hz6 := frz_hop 2 (hgrow.block g (by simp; omega) (Ne.symm hvg)) hgl y2; have hc6 := cel_hop 2 (hgrow.block g (by simp; omega) (Ne.symm hvg)) hgl f2))
                all_goals
                  have HF := Lib.hid (HC5.out.app hown1 hgrow hat (by have := HC.out.le; have := HT2.out; have := HL3.out; have : l3.tail.length ≤ l3.length := tail_le l3; omega))
                  clear hown1 hgrow hat hlt hz6 hc6
                  go_wp2
                  exact bodyPost_ret (results_none rfl _ _ _) rfl ⟨_, _, _, _, rfl, HF.out, by have := HL.out; have := HT2.out; have := HL3.out; have : l3.tail.length ≤ l3.length := tail_le l3; omega⟩
end Go.Proofs.YtkaejhdncohgpaaGreatFmt

/- The reference's lexer, whatever the text: Tokens, and lone. Condition: the text has at most 2^40 bytes. -/
namespace Go.Proofs.YtkaejhdncohgpaaGreatFmt
set_option linter.all false
open Go.RowKit
set_option maxRecDepth 100000
set_option maxHeartbeats 1000000

theorem Cm.now {g : Nat} {s : ByteArray} {v0 : Value} {w0 : World} {N : Nat} {v : Value} {n : Nat} {l : Its} {o : Bool} {wr : World} (h : Cm g s v0 w0 N v n l o wr) : Cm g s v wr (n + l.length) v n l o wr :=
  ⟨h.a, h.own, Kp.refl _ _, .inl rfl, Nat.le_refl _⟩
theorem Cm.comp {g : Nat} {s : ByteArray} {v0 : Value} {w0 : World} {N : Nat} {v v2 : Value} {n n2 : Nat} {l l2 : Its} {o o2 : Bool} {wr w2 : World} (h : Cm g s v0 w0 N v n l o wr) (k : Cm g s v wr (n + l.length) v2 n2 l2 o2 w2) : Cm g s v0 w0 N v2 n2 l2 o2 w2 := by
  have hks := h.kp.size
  refine ⟨k.a, k.own, ?_, ?_, Nat.le_trans k.le h.le⟩
  · refine h.kp.trans' k.kp fun i hi hs => ?_
    rcases hs with rfl | hs
    · exact .inl rfl
    · rcases h.fr with hf | hf
      · exact .inr (by rw [← hf]; exact hs)
      · exact absurd (hf i hs) (by omega)
  · rcases k.fr with hk | hk
    · rcases h.fr with hf | hf
      · exact .inl (by rw [hk, hf])
      · exact .inr fun i hi => hf i (by rw [← hk]; exact hi)
    · exact .inr fun i hi => Nat.le_trans hks (hk i hi)
theorem own_two {w : World} {B B' e e' n n' z z' : Nat} {u v : Value} {xs ys : List Value} (h : w.ownsRow B e z u n xs) (k : w.ownsRow B' e' z' v n' ys) (he : e ≠ e') : ∀ i, u.ownBlock = some i → v.ownBlock ≠ some i := by
  intro i hi hv
  obtain ⟨-, -, c1, h1⟩ := own_lt h i hi
  obtain ⟨-, -, c2, h2⟩ := own_lt k i hv
  rw [h1] at h2
  injection h2 with h2
  injection h2 with _ h2
  exact he h2
theorem Cm.hop {g : Nat} {s : ByteArray} {v0 : Value} {w0 : World} {N : Nat} {v : Value} {n : Nat} {l : Its} {o : Bool} {wr w' : World} {S : Nat → Prop} (h : Cm g s v0 w0 N v n l o wr) (k : Kp S wr w') (hg : ¬ S g) (hv : ∀ k, v.ownBlock = some k → ¬ S k) (h0 : ∀ k, S k → w0.heap.size ≤ k) : Cm g s v0 w0 N v n l o w' := by
  obtain ⟨xs, hx⟩ := h.own
  exact ⟨h.a.hop (k.block g h.a.gl hg), ⟨xs, own_kp hx k hv⟩, h.kp.trans' k fun i hi hs => absurd (h0 i hs) (by omega), h.fr, h.le⟩
/-- The cells of tokens, of which nothing is said but where the first one is alone. -/
def TCs (n : Nat) (xs : List Value) : Prop := n = 1 → ∃ k : Int, xs[0]? = some (.int .i64 k)
theorem TCs.snoc {n : Nat} {xs : List Value} (h : xs.length = n * 6) (k : Int) (r : List Value) : TCs (n + 1) (xs ++ .int .i64 k :: r) := fun hn => by
  have : n = 0 := by omega
  subst this
  have : xs = [] := List.eq_nil_of_length_eq_zero (by omega)
  subst this
  exact ⟨k, rfl⟩
/-- The loop of Tokens. -/
structure TkT (g : Nat) (s : ByteArray) (w1 : World) (k : Nat) (a : Value) (wr : World) (v : Value) (nc : Nat) (l : Its) (o : Bool) (n : Nat) (xs : List Value) : Prop where
  c : Cm g s (.slice none 0 0) w1 s.size v nc l o wr
  own : wr.ownsRow (g + 1) 49 6 a n xs
  tc : TCs n xs
  lt : l.length < k
  le : n + l.length ≤ s.size
/-- What Tokens leaves. -/
def TksR (w : World) (e : Ending) (w' : World) : Prop := ∃ a v n xs nc ys o, e = .returned (.tuple #[a, v, .bool o]) ∧ w'.ownsRow (w.heap.size + 1) 49 6 a n xs ∧ TCs n xs ∧ w'.ownsRow (w.heap.size + 1) 166 2 v nc ys ∧ Kp (fun _ => False) w w'

theorem Tokens_tot (s : ByteArray) (w : World) (hs : s.size ≤ 1099511627776) :
    Calls Tryz.prog 38 #[.string s] w fun e w' => TksR w e w' := by
  have hst : s.size ≤ 140737488355328 := by omega
  have hlen : (lft s 0).length ≤ s.size := by have := lft_len s 0 (by omega); omega
  have HA : At w.heap.size s (.slice none 0 0) (w.alloc (.cells #[.string s, .int .i64 0, .slice none 0 0, .bool false] 149)) (lft s 0) false (w.alloc (.cells #[.string s, .int .i64 0, .slice none 0 0, .bool false] 149)) :=
    ⟨0, by omega, Lib.hid rfl, Lib.hid (heap_alloc_new w _), Kp.refl _ _⟩
  have HKA := Lib.hid ((Kp.refl (fun _ => False) w).alloc (.cells #[.string s, .int .i64 0, .slice none 0 0, .bool false] 149))
  have hsz : (w.alloc (.cells #[.string s, .int .i64 0, .slice none 0 0, .bool false] 149)).heap.size = w.heap.size + 1 := by simp
  have HS := Lib.hid hsz
  have HO : (w.alloc (.cells #[.string s, .int .i64 0, .slice none 0 0, .bool false] 149)).ownsRow (w.heap.size + 1) 49 6 (.slice none 0 0) 0 [] := World.ownsRow_nil _ _ _ _
  have HT0 := Lib.hid (show TkT w.heap.size s (w.alloc (.cells #[.string s, .int .i64 0, .slice none 0 0, .bool false] 149)) (s.size + 1) (.slice none 0 0) (w.alloc (.cells #[.string s, .int .i64 0, .slice none 0 0, .bool false] 149)) (.slice none 0 0) 0 (lft s 0) false 0 [] from
    ⟨⟨HA, ⟨[], World.ownsRow_nil _ _ _ _⟩, Kp.refl _ _, .inl rfl, by omega⟩, HO, fun h => absurd h (by decide), by omega, by omega⟩)
  clear hsz HO HA hlen
  go_enter Tryz.func38, Tryz.ntmps38
  go_wp2
  generalize w.alloc (.cells #[.string s, .int .i64 0, .slice none 0 0, .bool false] 149) = w1 at *
  go_loopg [6] (s.size + 1) (fun k a wr => ∃ v nc l o n xs, Hid (TkT w.heap.size s w1 k a wr v nc l o n xs))
  case atStart => exact ⟨_, _, _, _, _, _, HT0⟩
  case round =>
    obtain ⟨v, nc, l, o, n, xs, HT⟩ := hrel
    have HN := Lib.hid HT.out.lt
    cases gk with
    | zero => exact absurd HN.out (by omega)
    | succ gk =>
    have HA0 := Lib.hid HT.out.c.a
    go_wp2_with fail
    refine (comment_tot _ s v nc _ l o HT.out.c.now hs (by have := HT.out.c.le; omega)).mono ?_
    rintro e w2 ⟨v2, nc2, l2, o2, rfl, hc2, hl2⟩
    have HC2 := Lib.hid (HT.out.c.comp hc2)
    have HO2 := Lib.hid (own_kp HT.out.own hc2.kp fun k hk hs => by
      rcases hs with hs | hs
      · have := (own_lt HT.out.own k hk).1; omega
      · obtain ⟨ys, hy⟩ := HT.out.c.own
        exact own_two HT.out.own hy (by decide) k hk hs)
    have HL2 := Lib.hid hl2
    clear hc2 hl2
    obtain ⟨f1, f3, z1, z3, -⟩ := HC2.out.a.f
    go_wp2_with fail
    refine (next_tot _ s v2 o2 (s.size + 1) _ l2 HC2.out.a hs (by have := HC2.out.a.len; omega)).mono ?_
    rintro e w3 ⟨k, u, id, tx, l3, o3, rfl, hlo, hl3, hk3⟩
    have HC3 := Lib.hid (HC2.out.at (HC2.out.a.step hlo) hl3)
    have HO3 := Lib.hid (own_kp HO2.out hlo.kp fun k hk hs => by have := (own_lt HO2.out k hk).1; omega)
    have HL3 := Lib.hid hl3
    have HK3 := Lib.hid hk3
    clear hlo hl3 hk3 f1 f3 z1 z3
    unfold tokV
    dsimp only
    have hA4 := HC3.out.a.alloc (.cells #[.int .i64 k, .int .i64 0, .int .i64 0, .int .i64 u, .bool id, .string (bstr tx)] 49)
    have hb8 := heap_alloc_new w3 (.cells #[.int .i64 k, .int .i64 0, .int .i64 0, .int .i64 u, .bool id, .string (bstr tx)] 49)
    have HO4 := Lib.hid (World.ownsRow.alloc HO3.out (.cells #[.int .i64 k, .int .i64 0, .int .i64 0, .int .i64 u, .bool id, .string (bstr tx)] 49))
    obtain ⟨ys, hy⟩ := HC3.out.own
    have HY4 := Lib.hid (World.ownsRow.alloc hy (.cells #[.int .i64 k, .int .i64 0, .int .i64 0, .int .i64 u, .bool id, .string (bstr tx)] 49))
    have HG3 := Lib.hid HC3.out.a.gl
    have HK4 := Lib.hid (HC3.out.kp.alloc (.cells #[.int .i64 k, .int .i64 0, .int .i64 0, .int .i64 u, .bool id, .string (bstr tx)] 49))
    clear hy
    cases b0 : (k == 0)
    case true =>
      go_wp2
      generalize w3.alloc (.cells #[.int .i64 k, .int .i64 0, .int .i64 0, .int .i64 u, .bool id, .string (bstr tx)] 49) = w4 at *
      obtain ⟨f1, f3, z1, z3, hw1⟩ := hA4.f
      have f2 := hA4.f2
      have HA4 := Lib.hid hA4.anew
      clear hA4
      obtain ⟨⟨c0, c1, c2, c3, c4, c5⟩, y0, y1, y2, y3, y4, y5⟩ := six hb8
      have HB8 := Lib.hid hb8
      clear hb8
      go_quiet (fail)
      go_wp2
      go_ret3
      refine ⟨u6, v2, n, xs, nc2, ys, o3, rfl, HO4.out, HT.out.tc, HY4.out, ?_⟩
      exact (HKA.out.trans' HK4.out (fun i hi h => by rcases h with h | h; omega; cases h)).drewN _
    case false =>
      have HLT := Lib.hid (show l3.length < l2.length by
        rcases HK3.out with h | h
        · exact absurd h (by simpa using b0)
        · exact h)
      have HK5 := Lib.hid ((Kp.refl (fun k => u6.ownBlock = some k) w3).alloc (.cells #[.int .i64 k, .int .i64 0, .int .i64 0, .int .i64 u, .bool id, .string (bstr tx)] 49))
      have HNB := Lib.hid (fun k hk => (own_lt HO3.out k hk).2.1)
      go_wp2
      generalize w3.alloc (.cells #[.int .i64 k, .int .i64 0, .int .i64 0, .int .i64 u, .bool id, .string (bstr tx)] 49) = w4 at *
      obtain ⟨f1, f3, z1, z3, hw1⟩ := hA4.f
      have f2 := hA4.f2
      have HA4 := Lib.hid hA4.anew
      clear hA4
      obtain ⟨⟨c0, c1, c2, c3, c4, c5⟩, y0, y1, y2, y3, y4, y5⟩ := six hb8
      have HB8 := Lib.hid hb8
      clear hb8
      have hgl3 := HG3.out
      go_region
      have HB4 : Hid (((w4.setCell ⟨w3.heap.size, 1, none⟩ (.int .i64 ((s.size - wsum l2 : Nat) : Int))).setCell ⟨w3.heap.size, 2, none⟩ (.int .i64 ((s.size - wsum l3 : Nat) : Int))).drew.heap[w3.heap.size]? = some (.cells #[.int .i64 k, .int .i64 ((s.size - wsum l2 : Nat) : Int), .int .i64 ((s.size - wsum l3 : Nat) : Int), .int .i64 u, .bool id, .string (bstr tx)] 49)) := by
        have := HB8.out
        show (World.setCell _ _ _).heap[w3.heap.size]? = _
        simp [World.setCell, Array.getElem?_modify, this]
      have HO5 : Hid (((w4.setCell ⟨w3.heap.size, 1, none⟩ (.int .i64 ((s.size - wsum l2 : Nat) : Int))).setCell ⟨w3.heap.size, 2, none⟩ (.int .i64 ((s.size - wsum l3 : Nat) : Int))).drew.ownsRow (w.heap.size + 1) 49 6 u6 n xs) := Lib.hid (own_set (own_set HO4.out ⟨w3.heap.size, 1, none⟩ (fun h => absurd (HNB.out _ h) (Nat.lt_irrefl _)) (.int .i64 ((s.size - wsum l2 : Nat) : Int))) ⟨w3.heap.size, 2, none⟩ (fun h => absurd (HNB.out _ h) (Nat.lt_irrefl _)) (.int .i64 ((s.size - wsum l3 : Nat) : Int)))
      have HK6 : Hid (Kp (fun k => u6.ownBlock = some k) w3 (((w4.setCell ⟨w3.heap.size, 1, none⟩ (.int .i64 ((s.size - wsum l2 : Nat) : Int))).setCell ⟨w3.heap.size, 2, none⟩ (.int .i64 ((s.size - wsum l3 : Nat) : Int))).drew)) := Lib.hid (((HK5.out.setCell (p := ⟨w3.heap.size, 1, none⟩) (.inr (Nat.le_refl _)) _).setCell (p := ⟨w3.heap.size, 2, none⟩) (.inr (Nat.le_refl _)) _).drew)
      have HS5 : Hid (w.heap.size + 1 ≤ (((w4.setCell ⟨w3.heap.size, 1, none⟩ (.int .i64 ((s.size - wsum l2 : Nat) : Int))).setCell ⟨w3.heap.size, 2, none⟩ (.int .i64 ((s.size - wsum l3 : Nat) : Int))).drew).heap.size) := Lib.hid (by have := HK6.out.size; have := HG3.out; omega)
      clear HB8 HO4 HY4 HA4 c0 c1 c2 c3 c4 c5 y0 y1 y2 y3 y4 y5 f1 f2 f3 z1 z3 HNB HK4 HK5
      generalize ((w4.setCell ⟨w3.heap.size, 1, none⟩ (.int .i64 ((s.size - wsum l2 : Nat) : Int))).setCell ⟨w3.heap.size, 2, none⟩ (.int .i64 ((s.size - wsum l3 : Nat) : Int))).drew = w5 at *
      obtain ⟨⟨c0, c1, c2, c3, c4, c5⟩, y0, y1, y2, y3, y4, y5⟩ := six HB4.out
      obtain ⟨i0, hi, hz0, hz1, hz2⟩ := info_parts info49
      have hbase := HS5.out
      have hnews := fun (X : Array Value) => World.news_of_block (heap_alloc_new w5 (.cells X 49))
      have HNW := Lib.hid hnews
      clear hnews
      have hdl : n + 1 ≤ s.size := by have := HT.out.le; have := HLT.out; have := HL2.out; omega
      go_wp2_with (at_builtin; refine wpList_append_own _ rfl (.tmp 39) (.tmp 41) 90 rfl (w.heap.size + 1) 49 i0 _ 6 56 Tryz.underlying90 hi hz0 hz1 hz2 rfl (by decide) u6 n xs rfl (World.ownsRow.alloc HO5.out _) ⟨w5.heap.size, 0, none⟩ 1 1 [.int .i64 k, .int .i64 ((s.size - wsum l2 : Nat) : Int), .int .i64 ((s.size - wsum l3 : Nat) : Int), .int .i64 u, .bool id, .string (bstr tx)] rfl rfl (HNW.out _) ?c1 ?c3 ?c4 ?c5 ?_)
      case c1 => intro x hx; simp at hx; rcases hx with rfl | rfl | rfl | rfl | rfl | rfl <;> rfl
      case c3 => unfold maxLen; omega
      case c4 => omega
      case c5 => exact Nat.le_trans hbase (by simp)
      intro v' w6 hown' hgrow _
      have hk7 : Kp (fun k => u6.ownBlock = some k) w3 w6 := (HK6.out.alloc _).grown hgrow fun k hk => .inl hk
      have HC7 := Lib.hid (HC3.out.hop hk7 (fun e => by have := (own_lt HO3.out _ e).1; omega) (fun k hk e => by
        obtain ⟨ys, hy⟩ := HC3.out.own
        exact own_two HO3.out hy (by decide) k e hk) (fun k e => by have := (own_lt HO3.out k e).1; have := HS.out; omega))
      have HO7 := Lib.hid hown'
      clear hown' hgrow hk7 c0 c1 c2 c3 c4 c5 y0 y1 y2 y3 y4 y5
      go_wp2
      go_roundg gk
      case rel => exact ⟨v2, nc2, l3, o3, n + 1, _, Lib.hid ⟨HC7.out, HO7.out, TCs.snoc HO3.out.1 k _, by have := HN.out; have := HLT.out; have := HL2.out; omega, by have := HT.out.le; have := HLT.out; have := HL2.out; omega⟩⟩
      case measure => omega

theorem own_first {w : World} {B e z c n : Nat} {A : Option Addr} {xs : List Value} {u : Value} (h : w.ownsRow B e z (.slice A n c) n xs) (hn : n = 1) (hz : 0 < z) (hx : xs[0]? = some u) : ∃ gb, A = some ⟨gb, 0, none⟩ ∧ w.cell? ⟨gb, 0, none⟩ = some u := by
  subst hn
  rcases h.2 with ⟨_, h0⟩ | ⟨g, cap, cur, hv, hB, hb, hn, hc, hsz, htk⟩
  · exact absurd h0 (by decide)
  · injection hv with hA _ _
    refine ⟨g, hA, ?_⟩
    simp only [World.cell?, hb]
    have h1 : (cur.toList.take (1 * z))[0]? = some u := by rw [htk]; exact hx
    rw [List.getElem?_take_of_lt (by omega)] at h1
    simpa using h1
/-- What lone answers: a truth value; yes says that the text is plain. -/
def LoneR (s : ByteArray) (e : Ending) : Prop := ∃ b : Bool, e = .returned (.bool b) ∧ (b = true → plB s.data.toList = true)
theorem lone_tot (s : ByteArray) (kd : Int) (w : World) (hs : s.size ≤ 1099511627776) :
    Calls Tryz.prog 53 #[.string s, .int .i64 kd] w fun e w' => LoneR s e ∧ Kp (fun _ => False) w w' := by
  have HT := Lib.hid (Tokens_tot s w hs)
  go_enter Tryz.func53, Tryz.ntmps53
  go_wp2_with fail
  refine HT.out.mono ?_
  rintro e w1 ⟨a, v, n, xs, nc, ys, o, rfl, ha, htc, hv, hk⟩
  obtain ⟨A, c, rfl⟩ : ∃ A c, a = .slice A n c := by
    rcases ha.2 with ⟨rfl, rfl⟩ | ⟨g, cap, cur, rfl, _⟩
    · exact ⟨_, _, rfl⟩
    · exact ⟨_, _, rfl⟩
  obtain ⟨A2, c2, rfl⟩ : ∃ A c, v = .slice A nc c := by
    rcases hv.2 with ⟨rfl, rfl⟩ | ⟨g, cap, cur, rfl, _⟩
    · exact ⟨_, _, rfl⟩
    · exact ⟨_, _, rfl⟩
  have HO := Lib.hid ha
  have HTC := Lib.hid htc
  have HK := Lib.hid hk
  have HP := Lib.hid (IsPlain_any s w1 (by omega))
  clear ha htc hk hv HT
  dsimp only
  cases hp : plB s.data.toList
  case false =>
    rw [hp] at HP
    go_wp2_with (go_at_call 16; with_reducible refine HP.out.mono ?_; rintro e w2 ⟨rfl, rfl⟩)
    go_ret
    exact ⟨⟨false, rfl, fun h => by cases h⟩, HK.out⟩
  case true =>
  rw [hp] at HP
  have HPL := Lib.hid hp
  clear hp
  cases o
  case true =>
    go_wp2_with (go_at_call 16; with_reducible refine HP.out.mono ?_; rintro e w2 ⟨rfl, rfl⟩)
    go_ret
    exact ⟨⟨_, rfl, fun _ => HPL.out⟩, HK.out⟩
  case false =>
  cases hnc : ((nc : Int) == 0)
  case false =>
    go_wp2_with (go_at_call 16; with_reducible refine HP.out.mono ?_; rintro e w2 ⟨rfl, rfl⟩)
    go_ret
    exact ⟨⟨_, rfl, fun _ => HPL.out⟩, HK.out⟩
  case true =>
  cases hn : ((n : Int) == 1)
  case false =>
    go_wp2_with (go_at_call 16; with_reducible refine HP.out.mono ?_; rintro e w2 ⟨rfl, rfl⟩)
    go_ret
    exact ⟨⟨_, rfl, fun _ => HPL.out⟩, HK.out⟩
  case true =>
    have hn1 : n = 1 := by have := beq_iff_eq.1 hn; omega
    obtain ⟨k, hx⟩ := HTC.out hn1
    obtain ⟨gb, rfl, hcl⟩ := own_first HO.out hn1 (by decide) hx
    clear hn
    subst hn1
    go_wp2_with (go_at_call 16; with_reducible refine HP.out.mono ?_; rintro e w2 ⟨rfl, rfl⟩)
    go_ret
    exact ⟨⟨_, rfl, fun _ => HPL.out⟩, HK.out⟩
end Go.Proofs.YtkaejhdncohgpaaGreatFmt
