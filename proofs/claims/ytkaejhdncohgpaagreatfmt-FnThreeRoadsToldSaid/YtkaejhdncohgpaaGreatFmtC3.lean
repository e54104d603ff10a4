/- Walk: printWithEscape, the hexadecimal way (made by gen/c3.py). -/
import Derived.Test.YtkaejhdncohgpaaGreatFmtM2
import Derived.Test.YtkaejhdncohgpaaGreatFmtShelf
namespace Go.Proofs.YtkaejhdncohgpaaGreatFmt
set_option linter.all false
open Go.RowKit Go.Lib
open Go.Extern.Stop Go.Stop Go.Extern
set_option maxRecDepth 100000
set_option maxHeartbeats 1000000

theorem hexL_len (c : Int) (h0 : 0 ≤ c) (h1 : c ≤ 1114111) : (hexL c).length ≤ 6 := by
  unfold hexL FmtText.numeral
  have key : ∀ (k fuel u : Nat) (acc : List UInt8), u < 16 ^ k → 1 ≤ k → (FmtText.digitsFrom 16 false fuel u acc).length ≤ k + acc.length := by
    intro k
    induction k with
    | zero => intro _ _ _ _ h; omega
    | succ k ih =>
      intro fuel u acc hu _
      cases fuel with
      | zero => simp [FmtText.digitsFrom]
      | succ f =>
        simp only [FmtText.digitsFrom]
        split
        · simp; omega
        · rename_i h16
          cases k with
          | zero => simp at hu; omega
          | succ k =>
            have := ih f (u / 16) (FmtText.digit false (u % 16) :: acc) (by rw [Nat.pow_succ] at hu; omega) (by omega)
            simp at this; omega
  have := key 6 64 c.toNat [] (by omega) (by omega)
  simpa using this
theorem hexv_ge (x : Int) : 0 ≤ hexv x ↔ (48 ≤ x ∧ x ≤ 57) ∨ (97 ≤ x ∧ x ≤ 102) ∨ (65 ≤ x ∧ x ≤ 70) := by
  unfold hexv isDig
  split
  · rename_i h; simp at h; omega
  · rename_i h; simp at h
    split
    · omega
    split
    · omega
    · omega
theorem get_L (s : ByteArray) (l : List UInt8) (b : UInt8) (r : List UInt8) (h : s.data.toList = l ++ b :: r) (hl : l.length < s.size) : s[l.length]'hl = b := by
  have h1 : s.data.toList[l.length]? = some b := by rw [h]; simp
  have h2 : s.data[l.length]? = some b := by rw [← Array.getElem?_toList]; exact h1
  have h3 : s[l.length]'hl = s.data[l.length]'hl := rfl
  rw [h3]
  exact (Array.getElem?_eq_some_iff.1 h2).2
theorem size_app (s : ByteArray) (l r : List UInt8) (h : s.data.toList = l ++ r) : s.size = l.length + r.length := by
  have : s.data.toList.length = (l ++ r).length := by rw [h]
  simpa using this
theorem kk_lit {w : World} (j : Nat) (u : Value) (x : UInt8) (h : (bys [x])[j]? = some u) : (w.alloc (.cells #[.int .u8 x.toNat] 5)).cell? ((⟨w.heap.size, 0, none⟩ : Addr).add j) = some u := by
  cases j with
  | zero =>
    simp [bys] at h
    subst h
    rw [World.cell?, show ((⟨w.heap.size, 0, none⟩ : Addr).add 0).block = w.heap.size from rfl, heap_alloc_new]
    simp [Addr.add]
  | succ j => simp [bys] at h

theorem hex_long (F : Interp) (G g : Nat) (m a : Bool) (v : Value) (css : List UInt8) (c : Int) (s : ByteArray) (rest : List UInt8) (last : Bool) (w : World) (h : Pn F G w g m a v css) (hc : Scal c) (hb : css.length + 100 ≤ 140737488355328) (h6 : ¬ (hexL c).length < 6) :
    Calls Tryz.prog 101 #[.pointer (some ⟨g, 0, none⟩), .int .i32 c, .int .u8 2, .string s, .bool last] w fun e w' => e = .returned (.tuple #[]) ∧ Wr F G g m a v w (css ++ hexP c rest last) w' := by
  have hF := answers_open h.tb.ans.1
  obtain ⟨t, hst⟩ : ∃ t, FmtStop.textOf (F "fmt.Sprintf" [[92, 37, 120], shape21, digits 8 (c % 18446744073709551616).toNat] 0) = t := ⟨_, rfl⟩
  have hT : t.data.toList = 92 :: hexL c := by rw [← hst]; exact h.tb.ans.2 c (by unfold Scal at hc; omega) (by unfold Scal at hc; omega)
  have hTs : t.size = (hexL c).length + 1 := by
    have : t.data.toList.length = (92 :: hexL c).length := by rw [hT]
    simpa using this
  obtain ⟨y3, y5, y6, y7, y9, y15, yf⟩ := h.pr.f
  have hlt := h.pr.lt
  have hne : g ≠ w.heap.size := by omega
  obtain ⟨A, n, cp, rfl⟩ := own_slice h.pr.own
  have hs1 : Kp (fun _ => False) w (((w.alloc (.cells #[.int .u8 0, .int .u8 0, .int .u8 0, .int .u8 0] 340)).alloc (.cells #[.iface 21 (.int .i32 c)] 20)).drew) := (((Kp.refl _ w).alloc _).alloc _).drew
  have hp1 := h.pr.below hs1
  have hlen := hexL_len c (by unfold Scal at hc; omega) (by unfold Scal at hc; omega)
  have HT := Lib.hid hT
  have HC := Lib.hid hc
  have hbt : css.length + t.size ≤ 140737488355328 := by omega
  have hge := hp1.ge
  have hown := hp1.own
  have HRL := Lib.hid (runeLen_encd c hc)
  have HL4 := encd_len c
  obtain ⟨L, hL⟩ : ∃ L, (encd c).length = L := ⟨_, rfl⟩
  rw [hL] at HRL HL4
  have h7t : 7 ≤ t.size := by omega
  clear hT hTs hc
  go_enter Tryz.func101, Tryz.ntmps101
  go_wp2_with (at_builtin; refine app_str (.tmp 91) (.tmp 92) rfl rfl G _ css rfl hown t rfl hbt hge ?_)
  intro v' w1 hA
  obtain ⟨A', n', cp', rfl⟩ := hA.form
  generalize (((w.alloc (.cells #[.int .u8 0, .int .u8 0, .int .u8 0, .int .u8 0] 340)).alloc (.cells #[.iface 21 (.int .i32 c)] 20)).drew) = W1 at hp1 hs1 hA hge hown
  obtain ⟨c15, d15⟩ := hp1.at1 hA
  obtain ⟨P2, S2⟩ := hp1.app hA
  have S2' := S2.pre hs1
  have hw2 := Wr.of h P2 S2'
  have HW2 := Lib.hid hw2
  clear P2 S2 S2' hw2 hp1 hs1 hge hown h hA
  go_wp2_with (first | (go_at_call 114; (with_reducible refine (Tryz.utf8_RuneLen ..).mono ?_); rw [HRL.out]; rintro e w' ⟨rfl, rfl⟩))
  go_end0
  have hh := HW2.out
  rw [HT.out] at hh
  have e : hexP c rest last = 92 :: hexL c := by unfold hexP; rw [if_neg h6, List.append_nil]
  rw [e]
  exact ⟨rfl, hh⟩
theorem hex_end0 (F : Interp) (G g : Nat) (m a : Bool) (v : Value) (css : List UInt8) (c : Int) (s : ByteArray)  (w : World) (h : Pn F G w g m a v css) (hc : Scal c) (hb : css.length + 100 ≤ 140737488355328) (hs : s.data.toList = encd c) (h6 : (hexL c).length < 6) :
    Calls Tryz.prog 101 #[.pointer (some ⟨g, 0, none⟩), .int .i32 c, .int .u8 2, .string s, .bool false] w fun e w' => e = .returned (.tuple #[]) ∧ Wr F G g m a v w (css ++ hexP c [] false) w' := by
  have hF := answers_open h.tb.ans.1
  obtain ⟨t, hst⟩ : ∃ t, FmtStop.textOf (F "fmt.Sprintf" [[92, 37, 120], shape21, digits 8 (c % 18446744073709551616).toNat] 0) = t := ⟨_, rfl⟩
  have hT : t.data.toList = 92 :: hexL c := by rw [← hst]; exact h.tb.ans.2 c (by unfold Scal at hc; omega) (by unfold Scal at hc; omega)
  have hTs : t.size = (hexL c).length + 1 := by
    have : t.data.toList.length = (92 :: hexL c).length := by rw [hT]
    simpa using this
  obtain ⟨y3, y5, y6, y7, y9, y15, yf⟩ := h.pr.f
  have hlt := h.pr.lt
  have hne : g ≠ w.heap.size := by omega
  obtain ⟨A, n, cp, rfl⟩ := own_slice h.pr.own
  have hs1 : Kp (fun _ => False) w (((w.alloc (.cells #[.int .u8 0, .int .u8 0, .int .u8 0, .int .u8 0] 340)).alloc (.cells #[.iface 21 (.int .i32 c)] 20)).drew) := (((Kp.refl _ w).alloc _).alloc _).drew
  have hp1 := h.pr.below hs1
  have hlen := hexL_len c (by unfold Scal at hc; omega) (by unfold Scal at hc; omega)
  have HT := Lib.hid hT
  have HC := Lib.hid hc
  have hbt : css.length + t.size ≤ 140737488355328 := by omega
  have hge := hp1.ge
  have hown := hp1.own
  have HRL := Lib.hid (runeLen_encd c hc)
  have HL4 := encd_len c
  obtain ⟨L, hL⟩ : ∃ L, (encd c).length = L := ⟨_, rfl⟩
  rw [hL] at HRL HL4
  have h7t : t.size < 7 := by omega
  have hz := size_app s (encd c) [] (by simpa using hs)
  have hzL : s.size ≤ L := by rw [hL] at hz; simp at hz; omega
  clear hs hz
  clear hT hTs hc
  go_enter Tryz.func101, Tryz.ntmps101
  go_wp2_with (at_builtin; refine app_str (.tmp 91) (.tmp 92) rfl rfl G _ css rfl hown t rfl hbt hge ?_)
  intro v' w1 hA
  obtain ⟨A', n', cp', rfl⟩ := hA.form
  generalize (((w.alloc (.cells #[.int .u8 0, .int .u8 0, .int .u8 0, .int .u8 0] 340)).alloc (.cells #[.iface 21 (.int .i32 c)] 20)).drew) = W1 at hp1 hs1 hA hge hown
  obtain ⟨c15, d15⟩ := hp1.at1 hA
  obtain ⟨P2, S2⟩ := hp1.app hA
  have S2' := S2.pre hs1
  have hw2 := Wr.of h P2 S2'
  have HW2 := Lib.hid hw2
  clear P2 S2 S2' hw2 hp1 hs1 hge hown h hA
  go_wp2_with (first | (go_at_call 114; (with_reducible refine (Tryz.utf8_RuneLen ..).mono ?_); rw [HRL.out]; rintro e w' ⟨rfl, rfl⟩))
  go_end0
  have hh := HW2.out
  rw [HT.out] at hh
  have e : hexP c [] false = 92 :: hexL c := by unfold hexP; rw [if_pos h6]; simp [spaced]
  rw [e]
  exact ⟨rfl, hh⟩
theorem hex_end1 (F : Interp) (G g : Nat) (m a : Bool) (v : Value) (css : List UInt8) (c : Int) (s : ByteArray)  (w : World) (h : Pn F G w g m a v css) (hc : Scal c) (hb : css.length + 100 ≤ 140737488355328) (hs : s.data.toList = encd c) (h6 : (hexL c).length < 6) :
    Calls Tryz.prog 101 #[.pointer (some ⟨g, 0, none⟩), .int .i32 c, .int .u8 2, .string s, .bool true] w fun e w' => e = .returned (.tuple #[]) ∧ Wr F G g m a v w (css ++ hexP c [] true) w' := by
  have hF := answers_open h.tb.ans.1
  obtain ⟨t, hst⟩ : ∃ t, FmtStop.textOf (F "fmt.Sprintf" [[92, 37, 120], shape21, digits 8 (c % 18446744073709551616).toNat] 0) = t := ⟨_, rfl⟩
  have hT : t.data.toList = 92 :: hexL c := by rw [← hst]; exact h.tb.ans.2 c (by unfold Scal at hc; omega) (by unfold Scal at hc; omega)
  have hTs : t.size = (hexL c).length + 1 := by
    have : t.data.toList.length = (92 :: hexL c).length := by rw [hT]
    simpa using this
  obtain ⟨y3, y5, y6, y7, y9, y15, yf⟩ := h.pr.f
  have hlt := h.pr.lt
  have hne : g ≠ w.heap.size := by omega
  obtain ⟨A, n, cp, rfl⟩ := own_slice h.pr.own
  have hs1 : Kp (fun _ => False) w (((w.alloc (.cells #[.int .u8 0, .int .u8 0, .int .u8 0, .int .u8 0] 340)).alloc (.cells #[.iface 21 (.int .i32 c)] 20)).drew) := (((Kp.refl _ w).alloc _).alloc _).drew
  have hp1 := h.pr.below hs1
  have hlen := hexL_len c (by unfold Scal at hc; omega) (by unfold Scal at hc; omega)
  have HT := Lib.hid hT
  have HC := Lib.hid hc
  have hbt : css.length + t.size ≤ 140737488355328 := by omega
  have hge := hp1.ge
  have hown := hp1.own
  have HRL := Lib.hid (runeLen_encd c hc)
  have HL4 := encd_len c
  obtain ⟨L, hL⟩ : ∃ L, (encd c).length = L := ⟨_, rfl⟩
  rw [hL] at HRL HL4
  have h7t : t.size < 7 := by omega
  have hz := size_app s (encd c) [] (by simpa using hs)
  have hzL : s.size ≤ L := by rw [hL] at hz; simp at hz; omega
  clear hs hz
  clear hT hTs hc
  go_enter Tryz.func101, Tryz.ntmps101
  go_wp2_with (at_builtin; refine app_str (.tmp 91) (.tmp 92) rfl rfl G _ css rfl hown t rfl hbt hge ?_)
  intro v' w1 hA
  obtain ⟨A', n', cp', rfl⟩ := hA.form
  generalize (((w.alloc (.cells #[.int .u8 0, .int .u8 0, .int .u8 0, .int .u8 0] 340)).alloc (.cells #[.iface 21 (.int .i32 c)] 20)).drew) = W1 at hp1 hs1 hA hge hown
  obtain ⟨c15, d15⟩ := hp1.at1 hA
  obtain ⟨P2, S2⟩ := hp1.app hA
  have S2' := S2.pre hs1
  have hw2 := Wr.of h P2 S2'
  have P2' := h.step P2 S2'
  have kA : Kp (fun _ => False) (w1.setCell ⟨g, 15, none⟩ (.slice A' n' cp')) ((w1.setCell ⟨g, 15, none⟩ (.slice A' n' cp')).alloc (.cells #[.int .u8 32] 5)) := (Kp.refl _ _).alloc _
  have hp3 := P2.below kA
  have hown3 := hp3.own
  have hge3 := hp3.ge
  have hlt1 : g < w1.heap.size := by have := P2.lt; simpa [World.setCell] using this
  have hbt3 : (css ++ t.data.toList).length + 1 ≤ 140737488355328 := by rw [List.length_append, show t.data.toList.length = t.size by simp]; omega
  clear hp1 hs1 hge hown hw2
  go_wp2_with (first | (go_at_call 114; (with_reducible refine (Tryz.utf8_RuneLen ..).mono ?_); rw [HRL.out]; rintro e w' ⟨rfl, rfl⟩) | (at_builtin; refine app_bys (.tmp 153) (.tmp 154) rfl rfl G _ (css ++ t.data.toList) rfl hown3 ⟨w1.heap.size, 0, none⟩ 1 1 [32] (by simp [Act.eval, World.setCell]) rfl (fun j u hu => by simpa [World.setCell] using kk_lit (w := w1.setCell ⟨g, 15, none⟩ (.slice A' n' cp')) j u 32 hu) hbt3 hge3 ?_))
  intro v2 w3 hA3
  obtain ⟨A2, n2, cp2, rfl⟩ := hA3.form
  obtain ⟨c17, d17⟩ := hp3.at1 hA3
  obtain ⟨P4, S4⟩ := hp3.app hA3
  have S4' := S2'.trans (S4.pre kA)
  have hw4 := Wr.of h P4 S4'
  have HW4 := Lib.hid hw4
  clear P4 S4 S4' hw4 hp3 hown3 hge3 hA3 P2 S2 S2' P2' kA hA h
  go_wp2
  go_end0
  have hh := HW4.out
  rw [HT.out] at hh
  have e : hexP c [] true = 92 :: hexL c ++ [32] := by unfold hexP; rw [if_pos h6]; simp [spaced]
  rw [e, ← List.append_assoc]
  exact ⟨rfl, hh⟩
theorem hex_sp (F : Interp) (G g : Nat) (m a : Bool) (v : Value) (css : List UInt8) (c : Int) (s : ByteArray) (b : UInt8) (r : List UInt8) (last : Bool) (w : World) (h : Pn F G w g m a v css) (hc : Scal c) (hb : css.length + 100 ≤ 140737488355328) (hs : s.data.toList = encd c ++ b :: r) (h6 : (hexL c).length < 6) (hbb : b.toNat = 32) :
    Calls Tryz.prog 101 #[.pointer (some ⟨g, 0, none⟩), .int .i32 c, .int .u8 2, .string s, .bool last] w fun e w' => e = .returned (.tuple #[]) ∧ Wr F G g m a v w (css ++ hexP c (b :: r) last) w' := by
  have hF := answers_open h.tb.ans.1
  obtain ⟨t, hst⟩ : ∃ t, FmtStop.textOf (F "fmt.Sprintf" [[92, 37, 120], shape21, digits 8 (c % 18446744073709551616).toNat] 0) = t := ⟨_, rfl⟩
  have hT : t.data.toList = 92 :: hexL c := by rw [← hst]; exact h.tb.ans.2 c (by unfold Scal at hc; omega) (by unfold Scal at hc; omega)
  have hTs : t.size = (hexL c).length + 1 := by
    have : t.data.toList.length = (92 :: hexL c).length := by rw [hT]
    simpa using this
  obtain ⟨y3, y5, y6, y7, y9, y15, yf⟩ := h.pr.f
  have hlt := h.pr.lt
  have hne : g ≠ w.heap.size := by omega
  obtain ⟨A, n, cp, rfl⟩ := own_slice h.pr.own
  have hs1 : Kp (fun _ => False) w (((w.alloc (.cells #[.int .u8 0, .int .u8 0, .int .u8 0, .int .u8 0] 340)).alloc (.cells #[.iface 21 (.int .i32 c)] 20)).drew) := (((Kp.refl _ w).alloc _).alloc _).drew
  have hp1 := h.pr.below hs1
  have hlen := hexL_len c (by unfold Scal at hc; omega) (by unfold Scal at hc; omega)
  have HT := Lib.hid hT
  have HC := Lib.hid hc
  have hbt : css.length + t.size ≤ 140737488355328 := by omega
  have hge := hp1.ge
  have hown := hp1.own
  have HRL := Lib.hid (runeLen_encd c hc)
  have HL4 := encd_len c
  obtain ⟨L, hL⟩ : ∃ L, (encd c).length = L := ⟨_, rfl⟩
  rw [hL] at HRL HL4
  have h7t : t.size < 7 := by omega
  have hz := size_app s (encd c) (b :: r) hs
  have hzL : L < s.size := by rw [hL] at hz; simp at hz; omega
  have hidx : s[L]'hzL = b := by subst hL; exact get_L s (encd c) b r hs hzL
  have HB := Lib.hid hbb
  have hb256 := b.toNat_lt
  clear hs hz
  clear hT hTs hc
  go_enter Tryz.func101, Tryz.ntmps101
  go_wp2_with (at_builtin; refine app_str (.tmp 91) (.tmp 92) rfl rfl G _ css rfl hown t rfl hbt hge ?_)
  intro v' w1 hA
  obtain ⟨A', n', cp', rfl⟩ := hA.form
  generalize (((w.alloc (.cells #[.int .u8 0, .int .u8 0, .int .u8 0, .int .u8 0] 340)).alloc (.cells #[.iface 21 (.int .i32 c)] 20)).drew) = W1 at hp1 hs1 hA hge hown
  obtain ⟨c15, d15⟩ := hp1.at1 hA
  obtain ⟨P2, S2⟩ := hp1.app hA
  have S2' := S2.pre hs1
  have hw2 := Wr.of h P2 S2'
  have P2' := h.step P2 S2'
  have kA : Kp (fun _ => False) (w1.setCell ⟨g, 15, none⟩ (.slice A' n' cp')) ((w1.setCell ⟨g, 15, none⟩ (.slice A' n' cp')).alloc (.cells #[.int .u8 32] 5)) := (Kp.refl _ _).alloc _
  have hp3 := P2.below kA
  have hown3 := hp3.own
  have hge3 := hp3.ge
  have hlt1 : g < w1.heap.size := by have := P2.lt; simpa [World.setCell] using this
  have hbt3 : (css ++ t.data.toList).length + 1 ≤ 140737488355328 := by rw [List.length_append, show t.data.toList.length = t.size by simp]; omega
  clear hp1 hs1 hge hown hw2
  go_wp2_with (first | (go_at_call 114; (with_reducible refine (Tryz.utf8_RuneLen ..).mono ?_); rw [HRL.out]; rintro e w' ⟨rfl, rfl⟩) | (at_builtin; refine app_bys (.tmp 143) (.tmp 144) rfl rfl G _ (css ++ t.data.toList) rfl hown3 ⟨w1.heap.size, 0, none⟩ 1 1 [32] (by simp [Act.eval, World.setCell]) rfl (fun j u hu => by simpa [World.setCell] using kk_lit (w := w1.setCell ⟨g, 15, none⟩ (.slice A' n' cp')) j u 32 hu) hbt3 hge3 ?_))
  intro v2 w3 hA3
  obtain ⟨A2, n2, cp2, rfl⟩ := hA3.form
  obtain ⟨c17, d17⟩ := hp3.at1 hA3
  obtain ⟨P4, S4⟩ := hp3.app hA3
  have S4' := S2'.trans (S4.pre kA)
  have hw4 := Wr.of h P4 S4'
  have HW4 := Lib.hid hw4
  clear P4 S4 S4' hw4 hp3 hown3 hge3 hA3 P2 S2 S2' P2' kA hA h
  go_wp2
  go_end0
  have hh := HW4.out
  rw [HT.out] at hh
  have e : hexP c (b :: r) last = 92 :: hexL c ++ [32] := by unfold hexP; rw [if_pos h6]; simp only [spaced, hexv_ge]; rw [if_pos (by have := HB.out; omega)]
  rw [e, ← List.append_assoc]
  exact ⟨rfl, hh⟩
theorem hex_tab (F : Interp) (G g : Nat) (m a : Bool) (v : Value) (css : List UInt8) (c : Int) (s : ByteArray) (b : UInt8) (r : List UInt8) (last : Bool) (w : World) (h : Pn F G w g m a v css) (hc : Scal c) (hb : css.length + 100 ≤ 140737488355328) (hs : s.data.toList = encd c ++ b :: r) (h6 : (hexL c).length < 6) (hbb : b.toNat = 9) :
    Calls Tryz.prog 101 #[.pointer (some ⟨g, 0, none⟩), .int .i32 c, .int .u8 2, .string s, .bool last] w fun e w' => e = .returned (.tuple #[]) ∧ Wr F G g m a v w (css ++ hexP c (b :: r) last) w' := by
  have hF := answers_open h.tb.ans.1
  obtain ⟨t, hst⟩ : ∃ t, FmtStop.textOf (F "fmt.Sprintf" [[92, 37, 120], shape21, digits 8 (c % 18446744073709551616).toNat] 0) = t := ⟨_, rfl⟩
  have hT : t.data.toList = 92 :: hexL c := by rw [← hst]; exact h.tb.ans.2 c (by unfold Scal at hc; omega) (by unfold Scal at hc; omega)
  have hTs : t.size = (hexL c).length + 1 := by
    have : t.data.toList.length = (92 :: hexL c).length := by rw [hT]
    simpa using this
  obtain ⟨y3, y5, y6, y7, y9, y15, yf⟩ := h.pr.f
  have hlt := h.pr.lt
  have hne : g ≠ w.heap.size := by omega
  obtain ⟨A, n, cp, rfl⟩ := own_slice h.pr.own
  have hs1 : Kp (fun _ => False) w (((w.alloc (.cells #[.int .u8 0, .int .u8 0, .int .u8 0, .int .u8 0] 340)).alloc (.cells #[.iface 21 (.int .i32 c)] 20)).drew) := (((Kp.refl _ w).alloc _).alloc _).drew
  have hp1 := h.pr.below hs1
  have hlen := hexL_len c (by unfold Scal at hc; omega) (by unfold Scal at hc; omega)
  have HT := Lib.hid hT
  have HC := Lib.hid hc
  have hbt : css.length + t.size ≤ 140737488355328 := by omega
  have hge := hp1.ge
  have hown := hp1.own
  have HRL := Lib.hid (runeLen_encd c hc)
  have HL4 := encd_len c
  obtain ⟨L, hL⟩ : ∃ L, (encd c).length = L := ⟨_, rfl⟩
  rw [hL] at HRL HL4
  have h7t : t.size < 7 := by omega
  have hz := size_app s (encd c) (b :: r) hs
  have hzL : L < s.size := by rw [hL] at hz; simp at hz; omega
  have hidx : s[L]'hzL = b := by subst hL; exact get_L s (encd c) b r hs hzL
  have HB := Lib.hid hbb
  have hb256 := b.toNat_lt
  clear hs hz
  clear hT hTs hc
  go_enter Tryz.func101, Tryz.ntmps101
  go_wp2_with (at_builtin; refine app_str (.tmp 91) (.tmp 92) rfl rfl G _ css rfl hown t rfl hbt hge ?_)
  intro v' w1 hA
  obtain ⟨A', n', cp', rfl⟩ := hA.form
  generalize (((w.alloc (.cells #[.int .u8 0, .int .u8 0, .int .u8 0, .int .u8 0] 340)).alloc (.cells #[.iface 21 (.int .i32 c)] 20)).drew) = W1 at hp1 hs1 hA hge hown
  obtain ⟨c15, d15⟩ := hp1.at1 hA
  obtain ⟨P2, S2⟩ := hp1.app hA
  have S2' := S2.pre hs1
  have hw2 := Wr.of h P2 S2'
  have P2' := h.step P2 S2'
  have kA : Kp (fun _ => False) (w1.setCell ⟨g, 15, none⟩ (.slice A' n' cp')) ((w1.setCell ⟨g, 15, none⟩ (.slice A' n' cp')).alloc (.cells #[.int .u8 32] 5)) := (Kp.refl _ _).alloc _
  have hp3 := P2.below kA
  have hown3 := hp3.own
  have hge3 := hp3.ge
  have hlt1 : g < w1.heap.size := by have := P2.lt; simpa [World.setCell] using this
  have hbt3 : (css ++ t.data.toList).length + 1 ≤ 140737488355328 := by rw [List.length_append, show t.data.toList.length = t.size by simp]; omega
  clear hp1 hs1 hge hown hw2
  go_wp2_with (first | (go_at_call 114; (with_reducible refine (Tryz.utf8_RuneLen ..).mono ?_); rw [HRL.out]; rintro e w' ⟨rfl, rfl⟩) | (at_builtin; refine app_bys (.tmp 143) (.tmp 144) rfl rfl G _ (css ++ t.data.toList) rfl hown3 ⟨w1.heap.size, 0, none⟩ 1 1 [32] (by simp [Act.eval, World.setCell]) rfl (fun j u hu => by simpa [World.setCell] using kk_lit (w := w1.setCell ⟨g, 15, none⟩ (.slice A' n' cp')) j u 32 hu) hbt3 hge3 ?_))
  intro v2 w3 hA3
  obtain ⟨A2, n2, cp2, rfl⟩ := hA3.form
  obtain ⟨c17, d17⟩ := hp3.at1 hA3
  obtain ⟨P4, S4⟩ := hp3.app hA3
  have S4' := S2'.trans (S4.pre kA)
  have hw4 := Wr.of h P4 S4'
  have HW4 := Lib.hid hw4
  clear P4 S4 S4' hw4 hp3 hown3 hge3 hA3 P2 S2 S2' P2' kA hA h
  go_wp2
  go_end0
  have hh := HW4.out
  rw [HT.out] at hh
  have e : hexP c (b :: r) last = 92 :: hexL c ++ [32] := by unfold hexP; rw [if_pos h6]; simp only [spaced, hexv_ge]; rw [if_pos (by have := HB.out; omega)]
  rw [e, ← List.append_assoc]
  exact ⟨rfl, hh⟩
theorem hex_dig (F : Interp) (G g : Nat) (m a : Bool) (v : Value) (css : List UInt8) (c : Int) (s : ByteArray) (b : UInt8) (r : List UInt8) (last : Bool) (w : World) (h : Pn F G w g m a v css) (hc : Scal c) (hb : css.length + 100 ≤ 140737488355328) (hs : s.data.toList = encd c ++ b :: r) (h6 : (hexL c).length < 6) (hbb : 48 ≤ b.toNat ∧ b.toNat ≤ 57) :
    Calls Tryz.prog 101 #[.pointer (some ⟨g, 0, none⟩), .int .i32 c, .int .u8 2, .string s, .bool last] w fun e w' => e = .returned (.tuple #[]) ∧ Wr F G g m a v w (css ++ hexP c (b :: r) last) w' := by
  have hF := answers_open h.tb.ans.1
  obtain ⟨t, hst⟩ : ∃ t, FmtStop.textOf (F "fmt.Sprintf" [[92, 37, 120], shape21, digits 8 (c % 18446744073709551616).toNat] 0) = t := ⟨_, rfl⟩
  have hT : t.data.toList = 92 :: hexL c := by rw [← hst]; exact h.tb.ans.2 c (by unfold Scal at hc; omega) (by unfold Scal at hc; omega)
  have hTs : t.size = (hexL c).length + 1 := by
    have : t.data.toList.length = (92 :: hexL c).length := by rw [hT]
    simpa using this
  obtain ⟨y3, y5, y6, y7, y9, y15, yf⟩ := h.pr.f
  have hlt := h.pr.lt
  have hne : g ≠ w.heap.size := by omega
  obtain ⟨A, n, cp, rfl⟩ := own_slice h.pr.own
  have hs1 : Kp (fun _ => False) w (((w.alloc (.cells #[.int .u8 0, .int .u8 0, .int .u8 0, .int .u8 0] 340)).alloc (.cells #[.iface 21 (.int .i32 c)] 20)).drew) := (((Kp.refl _ w).alloc _).alloc _).drew
  have hp1 := h.pr.below hs1
  have hlen := hexL_len c (by unfold Scal at hc; omega) (by unfold Scal at hc; omega)
  have HT := Lib.hid hT
  have HC := Lib.hid hc
  have hbt : css.length + t.size ≤ 140737488355328 := by omega
  have hge := hp1.ge
  have hown := hp1.own
  have HRL := Lib.hid (runeLen_encd c hc)
  have HL4 := encd_len c
  obtain ⟨L, hL⟩ : ∃ L, (encd c).length = L := ⟨_, rfl⟩
  rw [hL] at HRL HL4
  have h7t : t.size < 7 := by omega
  have hz := size_app s (encd c) (b :: r) hs
  have hzL : L < s.size := by rw [hL] at hz; simp at hz; omega
  have hidx : s[L]'hzL = b := by subst hL; exact get_L s (encd c) b r hs hzL
  have HB := Lib.hid hbb
  obtain ⟨bb1, bb2⟩ := hbb
  have hb256 := b.toNat_lt
  clear hs hz
  clear hT hTs hc
  go_enter Tryz.func101, Tryz.ntmps101
  go_wp2_with (at_builtin; refine app_str (.tmp 91) (.tmp 92) rfl rfl G _ css rfl hown t rfl hbt hge ?_)
  intro v' w1 hA
  obtain ⟨A', n', cp', rfl⟩ := hA.form
  generalize (((w.alloc (.cells #[.int .u8 0, .int .u8 0, .int .u8 0, .int .u8 0] 340)).alloc (.cells #[.iface 21 (.int .i32 c)] 20)).drew) = W1 at hp1 hs1 hA hge hown
  obtain ⟨c15, d15⟩ := hp1.at1 hA
  obtain ⟨P2, S2⟩ := hp1.app hA
  have S2' := S2.pre hs1
  have hw2 := Wr.of h P2 S2'
  have P2' := h.step P2 S2'
  have kA : Kp (fun _ => False) (w1.setCell ⟨g, 15, none⟩ (.slice A' n' cp')) ((w1.setCell ⟨g, 15, none⟩ (.slice A' n' cp')).alloc (.cells #[.int .u8 32] 5)) := (Kp.refl _ _).alloc _
  have hp3 := P2.below kA
  have hown3 := hp3.own
  have hge3 := hp3.ge
  have hlt1 : g < w1.heap.size := by have := P2.lt; simpa [World.setCell] using this
  have hbt3 : (css ++ t.data.toList).length + 1 ≤ 140737488355328 := by rw [List.length_append, show t.data.toList.length = t.size by simp]; omega
  clear hp1 hs1 hge hown hw2
  go_wp2_with (first | (go_at_call 114; (with_reducible refine (Tryz.utf8_RuneLen ..).mono ?_); rw [HRL.out]; rintro e w' ⟨rfl, rfl⟩) | (at_builtin; refine app_bys (.tmp 143) (.tmp 144) rfl rfl G _ (css ++ t.data.toList) rfl hown3 ⟨w1.heap.size, 0, none⟩ 1 1 [32] (by simp [Act.eval, World.setCell]) rfl (fun j u hu => by simpa [World.setCell] using kk_lit (w := w1.setCell ⟨g, 15, none⟩ (.slice A' n' cp')) j u 32 hu) hbt3 hge3 ?_))
  intro v2 w3 hA3
  obtain ⟨A2, n2, cp2, rfl⟩ := hA3.form
  obtain ⟨c17, d17⟩ := hp3.at1 hA3
  obtain ⟨P4, S4⟩ := hp3.app hA3
  have S4' := S2'.trans (S4.pre kA)
  have hw4 := Wr.of h P4 S4'
  have HW4 := Lib.hid hw4
  clear P4 S4 S4' hw4 hp3 hown3 hge3 hA3 P2 S2 S2' P2' kA hA h
  go_wp2
  go_end0
  have hh := HW4.out
  rw [HT.out] at hh
  have e : hexP c (b :: r) last = 92 :: hexL c ++ [32] := by unfold hexP; rw [if_pos h6]; simp only [spaced, hexv_ge]; rw [if_pos (by have := HB.out; omega)]
  rw [e, ← List.append_assoc]
  exact ⟨rfl, hh⟩
theorem hex_low (F : Interp) (G g : Nat) (m a : Bool) (v : Value) (css : List UInt8) (c : Int) (s : ByteArray) (b : UInt8) (r : List UInt8) (last : Bool) (w : World) (h : Pn F G w g m a v css) (hc : Scal c) (hb : css.length + 100 ≤ 140737488355328) (hs : s.data.toList = encd c ++ b :: r) (h6 : (hexL c).length < 6) (hbb : 97 ≤ b.toNat ∧ b.toNat ≤ 102) :
    Calls Tryz.prog 101 #[.pointer (some ⟨g, 0, none⟩), .int .i32 c, .int .u8 2, .string s, .bool last] w fun e w' => e = .returned (.tuple #[]) ∧ Wr F G g m a v w (css ++ hexP c (b :: r) last) w' := by
  have hF := answers_open h.tb.ans.1
  obtain ⟨t, hst⟩ : ∃ t, FmtStop.textOf (F "fmt.Sprintf" [[92, 37, 120], shape21, digits 8 (c % 18446744073709551616).toNat] 0) = t := ⟨_, rfl⟩
  have hT : t.data.toList = 92 :: hexL c := by rw [← hst]; exact h.tb.ans.2 c (by unfold Scal at hc; omega) (by unfold Scal at hc; omega)
  have hTs : t.size = (hexL c).length + 1 := by
    have : t.data.toList.length = (92 :: hexL c).length := by rw [hT]
    simpa using this
  obtain ⟨y3, y5, y6, y7, y9, y15, yf⟩ := h.pr.f
  have hlt := h.pr.lt
  have hne : g ≠ w.heap.size := by omega
  obtain ⟨A, n, cp, rfl⟩ := own_slice h.pr.own
  have hs1 : Kp (fun _ => False) w (((w.alloc (.cells #[.int .u8 0, .int .u8 0, .int .u8 0, .int .u8 0] 340)).alloc (.cells #[.iface 21 (.int .i32 c)] 20)).drew) := (((Kp.refl _ w).alloc _).alloc _).drew
  have hp1 := h.pr.below hs1
  have hlen := hexL_len c (by unfold Scal at hc; omega) (by unfold Scal at hc; omega)
  have HT := Lib.hid hT
  have HC := Lib.hid hc
  have hbt : css.length + t.size ≤ 140737488355328 := by omega
  have hge := hp1.ge
  have hown := hp1.own
  have HRL := Lib.hid (runeLen_encd c hc)
  have HL4 := encd_len c
  obtain ⟨L, hL⟩ : ∃ L, (encd c).length = L := ⟨_, rfl⟩
  rw [hL] at HRL HL4
  have h7t : t.size < 7 := by omega
  have hz := size_app s (encd c) (b :: r) hs
  have hzL : L < s.size := by rw [hL] at hz; simp at hz; omega
  have hidx : s[L]'hzL = b := by subst hL; exact get_L s (encd c) b r hs hzL
  have HB := Lib.hid hbb
  obtain ⟨bb1, bb2⟩ := hbb
  have hb256 := b.toNat_lt
  clear hs hz
  clear hT hTs hc
  go_enter Tryz.func101, Tryz.ntmps101
  go_wp2_with (at_builtin; refine app_str (.tmp 91) (.tmp 92) rfl rfl G _ css rfl hown t rfl hbt hge ?_)
  intro v' w1 hA
  obtain ⟨A', n', cp', rfl⟩ := hA.form
  generalize (((w.alloc (.cells #[.int .u8 0, .int .u8 0, .int .u8 0, .int .u8 0] 340)).alloc (.cells #[.iface 21 (.int .i32 c)] 20)).drew) = W1 at hp1 hs1 hA hge hown
  obtain ⟨c15, d15⟩ := hp1.at1 hA
  obtain ⟨P2, S2⟩ := hp1.app hA
  have S2' := S2.pre hs1
  have hw2 := Wr.of h P2 S2'
  have P2' := h.step P2 S2'
  have kA : Kp (fun _ => False) (w1.setCell ⟨g, 15, none⟩ (.slice A' n' cp')) ((w1.setCell ⟨g, 15, none⟩ (.slice A' n' cp')).alloc (.cells #[.int .u8 32] 5)) := (Kp.refl _ _).alloc _
  have hp3 := P2.below kA
  have hown3 := hp3.own
  have hge3 := hp3.ge
  have hlt1 : g < w1.heap.size := by have := P2.lt; simpa [World.setCell] using this
  have hbt3 : (css ++ t.data.toList).length + 1 ≤ 140737488355328 := by rw [List.length_append, show t.data.toList.length = t.size by simp]; omega
  clear hp1 hs1 hge hown hw2
  go_wp2_with (first | (go_at_call 114; (with_reducible refine (Tryz.utf8_RuneLen ..).mono ?_); rw [HRL.out]; rintro e w' ⟨rfl, rfl⟩) | (at_builtin; refine app_bys (.tmp 143) (.tmp 144) rfl rfl G _ (css ++ t.data.toList) rfl hown3 ⟨w1.heap.size, 0, none⟩ 1 1 [32] (by simp [Act.eval, World.setCell]) rfl (fun j u hu => by simpa [World.setCell] using kk_lit (w := w1.setCell ⟨g, 15, none⟩ (.slice A' n' cp')) j u 32 hu) hbt3 hge3 ?_))
  intro v2 w3 hA3
  obtain ⟨A2, n2, cp2, rfl⟩ := hA3.form
  obtain ⟨c17, d17⟩ := hp3.at1 hA3
  obtain ⟨P4, S4⟩ := hp3.app hA3
  have S4' := S2'.trans (S4.pre kA)
  have hw4 := Wr.of h P4 S4'
  have HW4 := Lib.hid hw4
  clear P4 S4 S4' hw4 hp3 hown3 hge3 hA3 P2 S2 S2' P2' kA hA h
  go_wp2
  go_end0
  have hh := HW4.out
  rw [HT.out] at hh
  have e : hexP c (b :: r) last = 92 :: hexL c ++ [32] := by unfold hexP; rw [if_pos h6]; simp only [spaced, hexv_ge]; rw [if_pos (by have := HB.out; omega)]
  rw [e, ← List.append_assoc]
  exact ⟨rfl, hh⟩
theorem hex_up (F : Interp) (G g : Nat) (m a : Bool) (v : Value) (css : List UInt8) (c : Int) (s : ByteArray) (b : UInt8) (r : List UInt8) (last : Bool) (w : World) (h : Pn F G w g m a v css) (hc : Scal c) (hb : css.length + 100 ≤ 140737488355328) (hs : s.data.toList = encd c ++ b :: r) (h6 : (hexL c).length < 6) (hbb : 65 ≤ b.toNat ∧ b.toNat ≤ 70) :
    Calls Tryz.prog 101 #[.pointer (some ⟨g, 0, none⟩), .int .i32 c, .int .u8 2, .string s, .bool last] w fun e w' => e = .returned (.tuple #[]) ∧ Wr F G g m a v w (css ++ hexP c (b :: r) last) w' := by
  have hF := answers_open h.tb.ans.1
  obtain ⟨t, hst⟩ : ∃ t, FmtStop.textOf (F "fmt.Sprintf" [[92, 37, 120], shape21, digits 8 (c % 18446744073709551616).toNat] 0) = t := ⟨_, rfl⟩
  have hT : t.data.toList = 92 :: hexL c := by rw [← hst]; exact h.tb.ans.2 c (by unfold Scal at hc; omega) (by unfold Scal at hc; omega)
  have hTs : t.size = (hexL c).length + 1 := by
    have : t.data.toList.length = (92 :: hexL c).length := by rw [hT]
    simpa using this
  obtain ⟨y3, y5, y6, y7, y9, y15, yf⟩ := h.pr.f
  have hlt := h.pr.lt
  have hne : g ≠ w.heap.size := by omega
  obtain ⟨A, n, cp, rfl⟩ := own_slice h.pr.own
  have hs1 : Kp (fun _ => False) w (((w.alloc (.cells #[.int .u8 0, .int .u8 0, .int .u8 0, .int .u8 0] 340)).alloc (.cells #[.iface 21 (.int .i32 c)] 20)).drew) := (((Kp.refl _ w).alloc _).alloc _).drew
  have hp1 := h.pr.below hs1
  have hlen := hexL_len c (by unfold Scal at hc; omega) (by unfold Scal at hc; omega)
  have HT := Lib.hid hT
  have HC := Lib.hid hc
  have hbt : css.length + t.size ≤ 140737488355328 := by omega
  have hge := hp1.ge
  have hown := hp1.own
  have HRL := Lib.hid (runeLen_encd c hc)
  have HL4 := encd_len c
  obtain ⟨L, hL⟩ : ∃ L, (encd c).length = L := ⟨_, rfl⟩
  rw [hL] at HRL HL4
  have h7t : t.size < 7 := by omega
  have hz := size_app s (encd c) (b :: r) hs
  have hzL : L < s.size := by rw [hL] at hz; simp at hz; omega
  have hidx : s[L]'hzL = b := by subst hL; exact get_L s (encd c) b r hs hzL
  have HB := Lib.hid hbb
  obtain ⟨bb1, bb2⟩ := hbb
  have hb256 := b.toNat_lt
  clear hs hz
  clear hT hTs hc
  go_enter Tryz.func101, Tryz.ntmps101
  go_wp2_with (at_builtin; refine app_str (.tmp 91) (.tmp 92) rfl rfl G _ css rfl hown t rfl hbt hge ?_)
  intro v' w1 hA
  obtain ⟨A', n', cp', rfl⟩ := hA.form
  generalize (((w.alloc (.cells #[.int .u8 0, .int .u8 0, .int .u8 0, .int .u8 0] 340)).alloc (.cells #[.iface 21 (.int .i32 c)] 20)).drew) = W1 at hp1 hs1 hA hge hown
  obtain ⟨c15, d15⟩ := hp1.at1 hA
  obtain ⟨P2, S2⟩ := hp1.app hA
  have S2' := S2.pre hs1
  have hw2 := Wr.of h P2 S2'
  have P2' := h.step P2 S2'
  have kA : Kp (fun _ => False) (w1.setCell ⟨g, 15, none⟩ (.slice A' n' cp')) ((w1.setCell ⟨g, 15, none⟩ (.slice A' n' cp')).alloc (.cells #[.int .u8 32] 5)) := (Kp.refl _ _).alloc _
  have hp3 := P2.below kA
  have hown3 := hp3.own
  have hge3 := hp3.ge
  have hlt1 : g < w1.heap.size := by have := P2.lt; simpa [World.setCell] using this
  have hbt3 : (css ++ t.data.toList).length + 1 ≤ 140737488355328 := by rw [List.length_append, show t.data.toList.length = t.size by simp]; omega
  clear hp1 hs1 hge hown hw2
  go_wp2_with (first | (go_at_call 114; (with_reducible refine (Tryz.utf8_RuneLen ..).mono ?_); rw [HRL.out]; rintro e w' ⟨rfl, rfl⟩) | (at_builtin; refine app_bys (.tmp 143) (.tmp 144) rfl rfl G _ (css ++ t.data.toList) rfl hown3 ⟨w1.heap.size, 0, none⟩ 1 1 [32] (by simp [Act.eval, World.setCell]) rfl (fun j u hu => by simpa [World.setCell] using kk_lit (w := w1.setCell ⟨g, 15, none⟩ (.slice A' n' cp')) j u 32 hu) hbt3 hge3 ?_))
  intro v2 w3 hA3
  obtain ⟨A2, n2, cp2, rfl⟩ := hA3.form
  obtain ⟨c17, d17⟩ := hp3.at1 hA3
  obtain ⟨P4, S4⟩ := hp3.app hA3
  have S4' := S2'.trans (S4.pre kA)
  have hw4 := Wr.of h P4 S4'
  have HW4 := Lib.hid hw4
  clear P4 S4 S4' hw4 hp3 hown3 hge3 hA3 P2 S2 S2' P2' kA hA h
  go_wp2
  go_end0
  have hh := HW4.out
  rw [HT.out] at hh
  have e : hexP c (b :: r) last = 92 :: hexL c ++ [32] := by unfold hexP; rw [if_pos h6]; simp only [spaced, hexv_ge]; rw [if_pos (by have := HB.out; omega)]
  rw [e, ← List.append_assoc]
  exact ⟨rfl, hh⟩
theorem hex_oa (F : Interp) (G g : Nat) (m a : Bool) (v : Value) (css : List UInt8) (c : Int) (s : ByteArray) (b : UInt8) (r : List UInt8) (last : Bool) (w : World) (h : Pn F G w g m a v css) (hc : Scal c) (hb : css.length + 100 ≤ 140737488355328) (hs : s.data.toList = encd c ++ b :: r) (h6 : (hexL c).length < 6) (hbb : b.toNat < 48 ∧ b.toNat ≠ 32 ∧ b.toNat ≠ 9) :
    Calls Tryz.prog 101 #[.pointer (some ⟨g, 0, none⟩), .int .i32 c, .int .u8 2, .string s, .bool last] w fun e w' => e = .returned (.tuple #[]) ∧ Wr F G g m a v w (css ++ hexP c (b :: r) last) w' := by
  have hF := answers_open h.tb.ans.1
  obtain ⟨t, hst⟩ : ∃ t, FmtStop.textOf (F "fmt.Sprintf" [[92, 37, 120], shape21, digits 8 (c % 18446744073709551616).toNat] 0) = t := ⟨_, rfl⟩
  have hT : t.data.toList = 92 :: hexL c := by rw [← hst]; exact h.tb.ans.2 c (by unfold Scal at hc; omega) (by unfold Scal at hc; omega)
  have hTs : t.size = (hexL c).length + 1 := by
    have : t.data.toList.length = (92 :: hexL c).length := by rw [hT]
    simpa using this
  obtain ⟨y3, y5, y6, y7, y9, y15, yf⟩ := h.pr.f
  have hlt := h.pr.lt
  have hne : g ≠ w.heap.size := by omega
  obtain ⟨A, n, cp, rfl⟩ := own_slice h.pr.own
  have hs1 : Kp (fun _ => False) w (((w.alloc (.cells #[.int .u8 0, .int .u8 0, .int .u8 0, .int .u8 0] 340)).alloc (.cells #[.iface 21 (.int .i32 c)] 20)).drew) := (((Kp.refl _ w).alloc _).alloc _).drew
  have hp1 := h.pr.below hs1
  have hlen := hexL_len c (by unfold Scal at hc; omega) (by unfold Scal at hc; omega)
  have HT := Lib.hid hT
  have HC := Lib.hid hc
  have hbt : css.length + t.size ≤ 140737488355328 := by omega
  have hge := hp1.ge
  have hown := hp1.own
  have HRL := Lib.hid (runeLen_encd c hc)
  have HL4 := encd_len c
  obtain ⟨L, hL⟩ : ∃ L, (encd c).length = L := ⟨_, rfl⟩
  rw [hL] at HRL HL4
  have h7t : t.size < 7 := by omega
  have hz := size_app s (encd c) (b :: r) hs
  have hzL : L < s.size := by rw [hL] at hz; simp at hz; omega
  have hidx : s[L]'hzL = b := by subst hL; exact get_L s (encd c) b r hs hzL
  have HB := Lib.hid hbb
  obtain ⟨bb1, bb2, bb3⟩ := hbb
  have hb256 := b.toNat_lt
  have hB1 : (((b.toNat : Nat) : Int) == 32) = false := by simp; omega
  have hB2 : (((b.toNat : Nat) : Int) == 9) = false := by simp; omega
  clear hs hz
  clear hT hTs hc
  go_enter Tryz.func101, Tryz.ntmps101
  go_wp2_with (at_builtin; refine app_str (.tmp 91) (.tmp 92) rfl rfl G _ css rfl hown t rfl hbt hge ?_)
  intro v' w1 hA
  obtain ⟨A', n', cp', rfl⟩ := hA.form
  generalize (((w.alloc (.cells #[.int .u8 0, .int .u8 0, .int .u8 0, .int .u8 0] 340)).alloc (.cells #[.iface 21 (.int .i32 c)] 20)).drew) = W1 at hp1 hs1 hA hge hown
  obtain ⟨c15, d15⟩ := hp1.at1 hA
  obtain ⟨P2, S2⟩ := hp1.app hA
  have S2' := S2.pre hs1
  have hw2 := Wr.of h P2 S2'
  have HW2 := Lib.hid hw2
  clear P2 S2 S2' hw2 hp1 hs1 hge hown h hA
  go_wp2_with (first | (go_at_call 114; (with_reducible refine (Tryz.utf8_RuneLen ..).mono ?_); rw [HRL.out]; rintro e w' ⟨rfl, rfl⟩))
  go_end0
  have hh := HW2.out
  rw [HT.out] at hh
  have e : hexP c (b :: r) last = 92 :: hexL c := by unfold hexP; rw [if_pos h6]; simp only [spaced, hexv_ge]; rw [if_neg (by have := HB.out; omega), List.append_nil]
  rw [e]
  exact ⟨rfl, hh⟩
theorem hex_ob (F : Interp) (G g : Nat) (m a : Bool) (v : Value) (css : List UInt8) (c : Int) (s : ByteArray) (b : UInt8) (r : List UInt8) (last : Bool) (w : World) (h : Pn F G w g m a v css) (hc : Scal c) (hb : css.length + 100 ≤ 140737488355328) (hs : s.data.toList = encd c ++ b :: r) (h6 : (hexL c).length < 6) (hbb : 57 < b.toNat ∧ b.toNat < 65) :
    Calls Tryz.prog 101 #[.pointer (some ⟨g, 0, none⟩), .int .i32 c, .int .u8 2, .string s, .bool last] w fun e w' => e = .returned (.tuple #[]) ∧ Wr F G g m a v w (css ++ hexP c (b :: r) last) w' := by
  have hF := answers_open h.tb.ans.1
  obtain ⟨t, hst⟩ : ∃ t, FmtStop.textOf (F "fmt.Sprintf" [[92, 37, 120], shape21, digits 8 (c % 18446744073709551616).toNat] 0) = t := ⟨_, rfl⟩
  have hT : t.data.toList = 92 :: hexL c := by rw [← hst]; exact h.tb.ans.2 c (by unfold Scal at hc; omega) (by unfold Scal at hc; omega)
  have hTs : t.size = (hexL c).length + 1 := by
    have : t.data.toList.length = (92 :: hexL c).length := by rw [hT]
    simpa using this
  obtain ⟨y3, y5, y6, y7, y9, y15, yf⟩ := h.pr.f
  have hlt := h.pr.lt
  have hne : g ≠ w.heap.size := by omega
  obtain ⟨A, n, cp, rfl⟩ := own_slice h.pr.own
  have hs1 : Kp (fun _ => False) w (((w.alloc (.cells #[.int .u8 0, .int .u8 0, .int .u8 0, .int .u8 0] 340)).alloc (.cells #[.iface 21 (.int .i32 c)] 20)).drew) := (((Kp.refl _ w).alloc _).alloc _).drew
  have hp1 := h.pr.below hs1
  have hlen := hexL_len c (by unfold Scal at hc; omega) (by unfold Scal at hc; omega)
  have HT := Lib.hid hT
  have HC := Lib.hid hc
  have hbt : css.length + t.size ≤ 140737488355328 := by omega
  have hge := hp1.ge
  have hown := hp1.own
  have HRL := Lib.hid (runeLen_encd c hc)
  have HL4 := encd_len c
  obtain ⟨L, hL⟩ : ∃ L, (encd c).length = L := ⟨_, rfl⟩
  rw [hL] at HRL HL4
  have h7t : t.size < 7 := by omega
  have hz := size_app s (encd c) (b :: r) hs
  have hzL : L < s.size := by rw [hL] at hz; simp at hz; omega
  have hidx : s[L]'hzL = b := by subst hL; exact get_L s (encd c) b r hs hzL
  have HB := Lib.hid hbb
  obtain ⟨bb1, bb2⟩ := hbb
  have hb256 := b.toNat_lt
  have hB1 : (((b.toNat : Nat) : Int) == 32) = false := by simp; omega
  have hB2 : (((b.toNat : Nat) : Int) == 9) = false := by simp; omega
  clear hs hz
  clear hT hTs hc
  go_enter Tryz.func101, Tryz.ntmps101
  go_wp2_with (at_builtin; refine app_str (.tmp 91) (.tmp 92) rfl rfl G _ css rfl hown t rfl hbt hge ?_)
  intro v' w1 hA
  obtain ⟨A', n', cp', rfl⟩ := hA.form
  generalize (((w.alloc (.cells #[.int .u8 0, .int .u8 0, .int .u8 0, .int .u8 0] 340)).alloc (.cells #[.iface 21 (.int .i32 c)] 20)).drew) = W1 at hp1 hs1 hA hge hown
  obtain ⟨c15, d15⟩ := hp1.at1 hA
  obtain ⟨P2, S2⟩ := hp1.app hA
  have S2' := S2.pre hs1
  have hw2 := Wr.of h P2 S2'
  have HW2 := Lib.hid hw2
  clear P2 S2 S2' hw2 hp1 hs1 hge hown h hA
  go_wp2_with (first | (go_at_call 114; (with_reducible refine (Tryz.utf8_RuneLen ..).mono ?_); rw [HRL.out]; rintro e w' ⟨rfl, rfl⟩))
  go_end0
  have hh := HW2.out
  rw [HT.out] at hh
  have e : hexP c (b :: r) last = 92 :: hexL c := by unfold hexP; rw [if_pos h6]; simp only [spaced, hexv_ge]; rw [if_neg (by have := HB.out; omega), List.append_nil]
  rw [e]
  exact ⟨rfl, hh⟩
theorem hex_oc (F : Interp) (G g : Nat) (m a : Bool) (v : Value) (css : List UInt8) (c : Int) (s : ByteArray) (b : UInt8) (r : List UInt8) (last : Bool) (w : World) (h : Pn F G w g m a v css) (hc : Scal c) (hb : css.length + 100 ≤ 140737488355328) (hs : s.data.toList = encd c ++ b :: r) (h6 : (hexL c).length < 6) (hbb : 70 < b.toNat ∧ b.toNat < 97) :
    Calls Tryz.prog 101 #[.pointer (some ⟨g, 0, none⟩), .int .i32 c, .int .u8 2, .string s, .bool last] w fun e w' => e = .returned (.tuple #[]) ∧ Wr F G g m a v w (css ++ hexP c (b :: r) last) w' := by
  have hF := answers_open h.tb.ans.1
  obtain ⟨t, hst⟩ : ∃ t, FmtStop.textOf (F "fmt.Sprintf" [[92, 37, 120], shape21, digits 8 (c % 18446744073709551616).toNat] 0) = t := ⟨_, rfl⟩
  have hT : t.data.toList = 92 :: hexL c := by rw [← hst]; exact h.tb.ans.2 c (by unfold Scal at hc; omega) (by unfold Scal at hc; omega)
  have hTs : t.size = (hexL c).length + 1 := by
    have : t.data.toList.length = (92 :: hexL c).length := by rw [hT]
    simpa using this
  obtain ⟨y3, y5, y6, y7, y9, y15, yf⟩ := h.pr.f
  have hlt := h.pr.lt
  have hne : g ≠ w.heap.size := by omega
  obtain ⟨A, n, cp, rfl⟩ := own_slice h.pr.own
  have hs1 : Kp (fun _ => False) w (((w.alloc (.cells #[.int .u8 0, .int .u8 0, .int .u8 0, .int .u8 0] 340)).alloc (.cells #[.iface 21 (.int .i32 c)] 20)).drew) := (((Kp.refl _ w).alloc _).alloc _).drew
  have hp1 := h.pr.below hs1
  have hlen := hexL_len c (by unfold Scal at hc; omega) (by unfold Scal at hc; omega)
  have HT := Lib.hid hT
  have HC := Lib.hid hc
  have hbt : css.length + t.size ≤ 140737488355328 := by omega
  have hge := hp1.ge
  have hown := hp1.own
  have HRL := Lib.hid (runeLen_encd c hc)
  have HL4 := encd_len c
  obtain ⟨L, hL⟩ : ∃ L, (encd c).length = L := ⟨_, rfl⟩
  rw [hL] at HRL HL4
  have h7t : t.size < 7 := by omega
  have hz := size_app s (encd c) (b :: r) hs
  have hzL : L < s.size := by rw [hL] at hz; simp at hz; omega
  have hidx : s[L]'hzL = b := by subst hL; exact get_L s (encd c) b r hs hzL
  have HB := Lib.hid hbb
  obtain ⟨bb1, bb2⟩ := hbb
  have hb256 := b.toNat_lt
  have hB1 : (((b.toNat : Nat) : Int) == 32) = false := by simp; omega
  have hB2 : (((b.toNat : Nat) : Int) == 9) = false := by simp; omega
  clear hs hz
  clear hT hTs hc
  go_enter Tryz.func101, Tryz.ntmps101
  go_wp2_with (at_builtin; refine app_str (.tmp 91) (.tmp 92) rfl rfl G _ css rfl hown t rfl hbt hge ?_)
  intro v' w1 hA
  obtain ⟨A', n', cp', rfl⟩ := hA.form
  generalize (((w.alloc (.cells #[.int .u8 0, .int .u8 0, .int .u8 0, .int .u8 0] 340)).alloc (.cells #[.iface 21 (.int .i32 c)] 20)).drew) = W1 at hp1 hs1 hA hge hown
  obtain ⟨c15, d15⟩ := hp1.at1 hA
  obtain ⟨P2, S2⟩ := hp1.app hA
  have S2' := S2.pre hs1
  have hw2 := Wr.of h P2 S2'
  have HW2 := Lib.hid hw2
  clear P2 S2 S2' hw2 hp1 hs1 hge hown h hA
  go_wp2_with (first | (go_at_call 114; (with_reducible refine (Tryz.utf8_RuneLen ..).mono ?_); rw [HRL.out]; rintro e w' ⟨rfl, rfl⟩))
  go_end0
  have hh := HW2.out
  rw [HT.out] at hh
  have e : hexP c (b :: r) last = 92 :: hexL c := by unfold hexP; rw [if_pos h6]; simp only [spaced, hexv_ge]; rw [if_neg (by have := HB.out; omega), List.append_nil]
  rw [e]
  exact ⟨rfl, hh⟩
theorem hex_od (F : Interp) (G g : Nat) (m a : Bool) (v : Value) (css : List UInt8) (c : Int) (s : ByteArray) (b : UInt8) (r : List UInt8) (last : Bool) (w : World) (h : Pn F G w g m a v css) (hc : Scal c) (hb : css.length + 100 ≤ 140737488355328) (hs : s.data.toList = encd c ++ b :: r) (h6 : (hexL c).length < 6) (hbb : 102 < b.toNat) :
    Calls Tryz.prog 101 #[.pointer (some ⟨g, 0, none⟩), .int .i32 c, .int .u8 2, .string s, .bool last] w fun e w' => e = .returned (.tuple #[]) ∧ Wr F G g m a v w (css ++ hexP c (b :: r) last) w' := by
  have hF := answers_open h.tb.ans.1
  obtain ⟨t, hst⟩ : ∃ t, FmtStop.textOf (F "fmt.Sprintf" [[92, 37, 120], shape21, digits 8 (c % 18446744073709551616).toNat] 0) = t := ⟨_, rfl⟩
  have hT : t.data.toList = 92 :: hexL c := by rw [← hst]; exact h.tb.ans.2 c (by unfold Scal at hc; omega) (by unfold Scal at hc; omega)
  have hTs : t.size = (hexL c).length + 1 := by
    have : t.data.toList.length = (92 :: hexL c).length := by rw [hT]
    simpa using this
  obtain ⟨y3, y5, y6, y7, y9, y15, yf⟩ := h.pr.f
  have hlt := h.pr.lt
  have hne : g ≠ w.heap.size := by omega
  obtain ⟨A, n, cp, rfl⟩ := own_slice h.pr.own
  have hs1 : Kp (fun _ => False) w (((w.alloc (.cells #[.int .u8 0, .int .u8 0, .int .u8 0, .int .u8 0] 340)).alloc (.cells #[.iface 21 (.int .i32 c)] 20)).drew) := (((Kp.refl _ w).alloc _).alloc _).drew
  have hp1 := h.pr.below hs1
  have hlen := hexL_len c (by unfold Scal at hc; omega) (by unfold Scal at hc; omega)
  have HT := Lib.hid hT
  have HC := Lib.hid hc
  have hbt : css.length + t.size ≤ 140737488355328 := by omega
  have hge := hp1.ge
  have hown := hp1.own
  have HRL := Lib.hid (runeLen_encd c hc)
  have HL4 := encd_len c
  obtain ⟨L, hL⟩ : ∃ L, (encd c).length = L := ⟨_, rfl⟩
  rw [hL] at HRL HL4
  have h7t : t.size < 7 := by omega
  have hz := size_app s (encd c) (b :: r) hs
  have hzL : L < s.size := by rw [hL] at hz; simp at hz; omega
  have hidx : s[L]'hzL = b := by subst hL; exact get_L s (encd c) b r hs hzL
  have HB := Lib.hid hbb
  have hb256 := b.toNat_lt
  have hB1 : (((b.toNat : Nat) : Int) == 32) = false := by simp; omega
  have hB2 : (((b.toNat : Nat) : Int) == 9) = false := by simp; omega
  clear hs hz
  clear hT hTs hc
  go_enter Tryz.func101, Tryz.ntmps101
  go_wp2_with (at_builtin; refine app_str (.tmp 91) (.tmp 92) rfl rfl G _ css rfl hown t rfl hbt hge ?_)
  intro v' w1 hA
  obtain ⟨A', n', cp', rfl⟩ := hA.form
  generalize (((w.alloc (.cells #[.int .u8 0, .int .u8 0, .int .u8 0, .int .u8 0] 340)).alloc (.cells #[.iface 21 (.int .i32 c)] 20)).drew) = W1 at hp1 hs1 hA hge hown
  obtain ⟨c15, d15⟩ := hp1.at1 hA
  obtain ⟨P2, S2⟩ := hp1.app hA
  have S2' := S2.pre hs1
  have hw2 := Wr.of h P2 S2'
  have HW2 := Lib.hid hw2
  clear P2 S2 S2' hw2 hp1 hs1 hge hown h hA
  go_wp2_with (first | (go_at_call 114; (with_reducible refine (Tryz.utf8_RuneLen ..).mono ?_); rw [HRL.out]; rintro e w' ⟨rfl, rfl⟩))
  go_end0
  have hh := HW2.out
  rw [HT.out] at hh
  have e : hexP c (b :: r) last = 92 :: hexL c := by unfold hexP; rw [if_pos h6]; simp only [spaced, hexv_ge]; rw [if_neg (by have := HB.out; omega), List.append_nil]
  rw [e]
  exact ⟨rfl, hh⟩

theorem hex_all (F : Interp) (G g : Nat) (m a : Bool) (v : Value) (css : List UInt8) (c : Int) (s : ByteArray) (rest : List UInt8) (last : Bool) (w : World) (h : Pn F G w g m a v css) (hc : Scal c) (hb : css.length + 100 ≤ 140737488355328) (hs : s.data.toList = encd c ++ rest) :
    Calls Tryz.prog 101 #[.pointer (some ⟨g, 0, none⟩), .int .i32 c, .int .u8 2, .string s, .bool last] w fun e w' => e = .returned (.tuple #[]) ∧ Wr F G g m a v w (css ++ hexP c rest last) w' := by
  by_cases h6 : (hexL c).length < 6
  · match rest, hs with
    | [], hs =>
      rw [List.append_nil] at hs
      cases last
      · exact hex_end0 F G g m a v css c s w h hc hb hs h6
      · exact hex_end1 F G g m a v css c s w h hc hb hs h6
    | b :: r, hs =>
      by_cases q1 : b.toNat = 32
      · exact hex_sp F G g m a v css c s b r last w h hc hb hs h6 q1
      by_cases q2 : b.toNat = 9
      · exact hex_tab F G g m a v css c s b r last w h hc hb hs h6 q2
      by_cases q3 : b.toNat < 48
      · exact hex_oa F G g m a v css c s b r last w h hc hb hs h6 ⟨q3, q1, q2⟩
      by_cases q4 : b.toNat ≤ 57
      · exact hex_dig F G g m a v css c s b r last w h hc hb hs h6 ⟨by omega, q4⟩
      by_cases q5 : b.toNat < 65
      · exact hex_ob F G g m a v css c s b r last w h hc hb hs h6 ⟨by omega, q5⟩
      by_cases q6 : b.toNat ≤ 70
      · exact hex_up F G g m a v css c s b r last w h hc hb hs h6 ⟨by omega, q6⟩
      by_cases q7 : b.toNat < 97
      · exact hex_oc F G g m a v css c s b r last w h hc hb hs h6 ⟨by omega, q7⟩
      by_cases q8 : b.toNat ≤ 102
      · exact hex_low F G g m a v css c s b r last w h hc hb hs h6 ⟨by omega, q8⟩
      · exact hex_od F G g m a v css c s b r last w h hc hb hs h6 (by omega)
  · exact hex_long F G g m a v css c s rest last w h hc hb h6

end Go.Proofs.YtkaejhdncohgpaaGreatFmt
