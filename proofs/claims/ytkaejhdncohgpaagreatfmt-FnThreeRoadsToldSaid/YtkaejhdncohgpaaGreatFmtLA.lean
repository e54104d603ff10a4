/- The laws' guards: which texts are plain, names, low. Condition: the text has at most 2^47 bytes. -/
import Derived.Test.YtkaejhdncohgpaaGreatFmtL8
import Derived.Test.YtkaejhdncohgpaaGreatFmtM1
import Derived.Lib.Strings
namespace Go.Proofs.YtkaejhdncohgpaaGreatFmt
set_option linter.all false
open Go.RowKit
set_option maxRecDepth 100000
set_option maxHeartbeats 1000000

def okC (first : Bool) (c : Int) : Bool := !(decide (c = -2)) && !(decide (c = 0)) && !(first && decide (c = 65279))
def plI : Bool → Its → Bool
  | _, [] => true
  | f, x :: r => okC f x.1 && plI false r
/-- A text is plain. -/
def plB (l : List UInt8) : Bool := plI true (its l)
theorem okC_bad1 (f : Bool) (c : Int) (h : c = -2) : okC f c = false := by subst h; cases f <;> rfl
theorem okC_bad2 (f : Bool) (c : Int) (h : c = 0) : okC f c = false := by subst h; cases f <;> rfl
theorem okC_bad3 (c : Int) (h : c = 65279) : okC true c = false := by subst h; rfl
theorem okC_ok (f : Bool) (c : Int) (h1 : c ≠ -2) (h2 : c ≠ 0) (h3 : f = false ∨ c ≠ 65279) : okC f c = true := by
  rcases h3 with rfl | h3
  · simp [okC, h1, h2]
  · simp [okC, h1, h2, h3]
theorem IsPlain_any (s : ByteArray) (w : World) (hs : s.size ≤ 140737488355328) : Calls Tryz.prog 16 #[.string s] w fun e w' => e = .returned (.bool (plB s.data.toList)) ∧ w' = w := by
  have HS := Lib.hid hs
  go_enter Tryz.func16, Tryz.ntmps16
  go_wp2
  go_loop [3] (fun i => ∃ p : Nat, p ≤ s.size ∧ i = .int .i64 p ∧ Hid (plI (decide (p = 0)) (lft s p) = plB s.data.toList)) (fun i => s.size - (intOf i).toNat)
  case atStart => exact ⟨0, by omega, rfl, Lib.hid (by simp [plB, lft])⟩
  case round =>
    obtain ⟨p, hp, rfl, HP⟩ := hrel
    by_cases hlt : p < s.size
    · have hst := its_step s p hp
      have hne : s.data.toList.drop p ≠ [] := by intro e; have := congrArg List.length e; simp at this; omega
      have hw := raL_wid _ hne
      have hc : lft s p = raL (s.data.toList.drop p) :: lft s (p + (raL (s.data.toList.drop p)).2) := by
        rw [hst.2.1]
        unfold lft
        rw [its_cons _ hne]; rfl
      have HR := Lib.hid (runeAt_any s p w hs (by omega))
      have h1 := hst.1
      have hr := raL_range (s.data.toList.drop p)
      have hp0 := HP.out
      rw [hc] at hp0
      simp only [plI] at hp0
      have HP0 := Lib.hid hp0
      generalize raL (s.data.toList.drop p) = x at *
      obtain ⟨c, n⟩ := x
      simp only at h1 hr hw
      clear hst hne hc hp0 HP
      have hw1 := hw.1
      by_cases q1 : c = -2
      · have b1 : (c == -2) = true := by simpa using q1
        have HF : Hid (plB s.data.toList = false) := Lib.hid (by rw [← HP0.out]; simp only [okC_bad1 _ c q1]; rfl)
        clear q1 HP0
        go_wp2_with (go_at_call 31; refine HR.out.mono ?_; rintro e w' ⟨rfl, rfl⟩)
        go_ret
        exact ⟨ret_bool HF.out.symm, rfl⟩
      · have b1 : (c == -2) = false := by simpa using q1
        by_cases q2 : c = 0
        · have b2 : (c == 0) = true := by simpa using q2
          have HF : Hid (plB s.data.toList = false) := Lib.hid (by rw [← HP0.out]; simp only [okC_bad2 _ c q2]; rfl)
          clear q1 q2 HP0
          go_wp2_with (go_at_call 31; refine HR.out.mono ?_; rintro e w' ⟨rfl, rfl⟩)
          go_ret
          exact ⟨ret_bool HF.out.symm, rfl⟩
        · have b2 : (c == 0) = false := by simpa using q2
          by_cases q3 : p = 0 ∧ c = 65279
          · obtain ⟨rfl, q3⟩ := q3
            have b3 : (c == 65279) = true := by simpa using q3
            have HF : Hid (plB s.data.toList = false) := Lib.hid (by rw [← HP0.out]; simp only [decide_true, okC_bad3 c q3]; rfl)
            clear q1 q2 q3 HP0
            go_wp2_with (go_at_call 31; refine HR.out.mono ?_; rintro e w' ⟨rfl, rfl⟩)
            go_ret
            exact ⟨ret_bool HF.out.symm, rfl⟩
          · have HN : Hid (plI (decide (p + n = 0)) (lft s (p + n)) = plB s.data.toList) := Lib.hid (by
              rw [← HP0.out]
              have e : okC (decide (p = 0)) c = true := okC_ok _ c q1 q2 (by
                by_cases h : p = 0
                · right; intro h2; exact q3 ⟨h, h2⟩
                · left; simpa using h)
              simp only [e, Bool.true_and]
              rw [show decide (p + n = 0) = false by simp; omega])
            clear HP0 q1 q2
            by_cases hp0 : p = 0
            · subst hp0
              have b3 : (c == 65279) = false := by simpa using q3
              clear q3
              go_wp2_with (go_at_call 31; refine HR.out.mono ?_; rintro e w' ⟨rfl, rfl⟩)
              go_round
              case rel => exact ⟨0 + n, by omega, by simp, HN⟩
              case measure => simp [intOf]; omega
            · have b4 : ((p : Int) == 0) = false := by simp; omega
              clear q3
              go_wp2_with (go_at_call 31; refine HR.out.mono ?_; rintro e w' ⟨rfl, rfl⟩)
              go_round
              case rel => exact ⟨p + n, by omega, by simp, HN⟩
              case measure => simp [intOf]; omega
    · have HF : Hid (plB s.data.toList = true) := Lib.hid (by
        rw [← HP.out, show lft s p = [] by unfold lft; rw [drop_end s p (by omega)]; rfl]; cases (decide (p = 0)) <;> rfl)
      go_wp2
      go_ret
      exact ⟨ret_bool HF.out.symm, rfl⟩

/-- All bytes are below 0xf4. -/
def lowA (l : List UInt8) : Bool := l.all fun b => decide (b.toNat < 244)
theorem Low_any (s : ByteArray) (w : World) (hs : s.size ≤ 140737488355328) : Calls Tryz.prog 32 #[.string s] w fun e w' => e = .returned (.bool (lowA s.data.toList)) ∧ w' = w := by
  go_enter Tryz.func32, Tryz.ntmps32
  go_wp2
  go_loop [6] (fun i => ∃ k : Nat, k ≤ s.size ∧ i = .int .i64 k ∧ Hid (lowA (s.data.toList.take k) = true)) (fun i => s.size - (intOf i).toNat)
  case atStart => exact ⟨0, by omega, rfl, Lib.hid rfl⟩
  case round =>
    obtain ⟨k, hk, rfl, HK⟩ := hrel
    by_cases hlt : k < s.size
    · have hl : k < s.data.toList.length := by simpa using hlt
      have ht : s.data.toList.take (k + 1) = s.data.toList.take k ++ [s[k]] := by
        rw [List.take_succ_eq_append_getElem hl]; rfl
      by_cases hb : s[k].toNat < 244
      · have HN : Hid (lowA (s.data.toList.take (k + 1)) = true) := Lib.hid (by
          rw [ht]
          have := HK.out
          simp only [lowA, List.all_append, List.all_cons, List.all_nil, Bool.and_true] at *
          rw [this]; simp [hb])
        clear ht
        go_wp2
        go_round
        case rel => exact ⟨k + 1, by omega, by go_num, HN⟩
        case measure => simp [intOf]; omega
      · have HN : Hid (lowA s.data.toList = false) := Lib.hid (by
          unfold lowA
          rw [List.all_eq_false]
          exact ⟨s[k], List.getElem_mem hl, by simpa using hb⟩)
        clear ht
        go_wp2
        go_ret
        exact ⟨ret_bool HN.out.symm, rfl⟩
    · have HN : Hid (lowA s.data.toList = true) := Lib.hid (by
        have := HK.out
        rwa [List.take_of_length_le (by simp; omega)] at this)
      go_wp2
      go_ret
      exact ⟨ret_bool HN.out.symm, rfl⟩

/-- A text may be a name: not empty, plain behind a letter. -/
def nmB (l : List UInt8) : Bool := !l.isEmpty && plB (120 :: l)
theorem isName_any (s : ByteArray) (w : World) (hs : s.size ≤ 140737488355000) : Calls Tryz.prog 37 #[.string s] w fun e w' => e = .returned (.bool (nmB s.data.toList)) ∧ w' = w := by
  have hx : ((⟨#[120]⟩ : ByteArray) ++ s).data.toList = 120 :: s.data.toList := by simp
  have hz : ((⟨#[120]⟩ : ByteArray) ++ s).size ≤ 140737488355328 := by
    have : ((⟨#[120]⟩ : ByteArray) ++ s).size = 1 + s.size := by rw [ByteArray.size_append]; rfl
    omega
  have HP := Lib.hid (IsPlain_any (⟨#[120]⟩ ++ s) w hz)
  rw [hx] at HP
  by_cases he : s.data.toList = []
  · have h1 : s.toList = [] := by rw [Lib.toList_data]; exact he
    have HF : Hid (nmB s.data.toList = false) := Lib.hid (by rw [he]; rfl)
    go_enter Tryz.func37, Tryz.ntmps37
    go_wp2
    go_ret
    exact ⟨ret_bool HF.out.symm, rfl⟩
  · have h0 : !s.data.toList.isEmpty := by simpa using he
    have h1 : !s.toList.isEmpty := by rw [Lib.toList_data]; exact h0
    have HF : Hid (nmB s.data.toList = plB (120 :: s.data.toList)) := Lib.hid (by unfold nmB; rw [h0]; rfl)
    clear hx h0
    go_enter Tryz.func37, Tryz.ntmps37
    go_wp2_with (go_at_call 16; refine HP.out.mono ?_; rintro e w' ⟨rfl, rfl⟩)
    go_ret
    exact ⟨ret_bool HF.out.symm, rfl⟩
end Go.Proofs.YtkaejhdncohgpaaGreatFmt
