/- The reference's runeAt: which code point stands at a place of a text, and how wide it is. Condition: the text has at most 2^47 bytes. -/
import Derived.Test.YtkaejhdncohgpaaGreatFmtL0
namespace Go.Proofs.YtkaejhdncohgpaaGreatFmt
set_option linter.all false
open Go.RowKit
set_option maxRecDepth 100000

theorem drop_at (s : ByteArray) (p : Nat) (h : p < s.size) : s.data.toList.drop p = s[p] :: s.data.toList.drop (p + 1) := by
  rw [List.drop_eq_getElem_cons (by simpa using h)]; rfl
theorem drop_end (s : ByteArray) (p : Nat) (h : s.size ≤ p) : s.data.toList.drop p = [] := List.drop_eq_nil_of_le (by simpa using h)

theorem ret_tup2 {a b c d : Int} (h : a = c) (k : b = d) : Ending.returned (.tuple #[.int .i64 a, .int .i64 b]) = .returned (.tuple #[.int .i64 c, .int .i64 d]) := by rw [h, k]
theorem and192 : ∀ x : Fin 256, (bits .and .u8 (x.val : Int) 192 == 128) = decide (x.val / 64 = 2) := by decide +kernel
theorem and63u : ∀ x : Fin 256, bits .and .u8 (x.val : Int) 63 = ((x.val % 64 : Nat) : Int) := by decide +kernel

theorem runeAt_end (s : ByteArray) (p : Nat) (w : World) (hs : s.size ≤ 140737488355328) (hp : s.size ≤ p) (hp2 : p ≤ 140737488355400) : Calls Tryz.prog 31 #[.string s, .int .i64 p] w fun e w' => e = .returned (.tuple #[.int .i64 (raL (s.data.toList.drop p)).1, .int .i64 (raL (s.data.toList.drop p)).2]) ∧ w' = w := by
  rw [drop_end s p hp]
  go_enter Tryz.func31, Tryz.ntmps31
  go_wp2
  go_ret2
  exact ⟨rfl, rfl⟩
theorem runeAt_one (s : ByteArray) (p : Nat) (w : World) (hs : s.size ≤ 140737488355328) (hp : p < s.size) (hx : s[p].toNat < 128) : Calls Tryz.prog 31 #[.string s, .int .i64 p] w fun e w' => e = .returned (.tuple #[.int .i64 (raL (s.data.toList.drop p)).1, .int .i64 (raL (s.data.toList.drop p)).2]) ∧ w' = w := by
  rw [drop_at s p hp, raL, if_pos hx]
  go_enter Tryz.func31, Tryz.ntmps31
  go_wp2
  go_ret2
  exact ⟨rfl, rfl⟩
theorem runeAt_bad (s : ByteArray) (p : Nat) (w : World) (hs : s.size ≤ 140737488355328) (hp : p < s.size) (hx : 128 ≤ s[p].toNat ∧ s[p].toNat < 194 ∨ 245 ≤ s[p].toNat) : Calls Tryz.prog 31 #[.string s, .int .i64 p] w fun e w' => e = .returned (.tuple #[.int .i64 (raL (s.data.toList.drop p)).1, .int .i64 (raL (s.data.toList.drop p)).2]) ∧ w' = w := by
  rw [drop_at s p hp, raL, if_neg (by omega), if_neg (by omega), if_neg (by omega), if_neg (by omega)]
  have hx' : 128 ≤ s[p].toNat := by omega
  have hb : s[p].toNat < 256 := s[p].toNat_lt
  rcases hx with ⟨h1, h2⟩ | h1
  all_goals
    go_enter Tryz.func31, Tryz.ntmps31
    go_wp2
    go_ret2
    exact ⟨rfl, rfl⟩

/-- The loop over the further bytes, from its head. -/
theorem fin_none (n low : Nat) : fin n low none = (-2, 1) := rfl
theorem bnd (i a : Nat) (h1 : 1 ≤ i) (h2 : i ≤ 3) (h : a < 32 * 64 ^ (i - 1)) (x : Nat) : a < 131072 ∧ a * 64 + x % 64 < 32 * 64 ^ (i + 1 - 1) := by
  have : i = 1 ∨ i = 2 ∨ i = 3 := by omega
  rcases this with rfl | rfl | rfl <;> simp at * <;> omega


/-- What a round of that loop, and what stands behind it, comes to; n is the width, low the least code point. -/
def RA (s : ByteArray) (p n a0 : Nat) (c v : Value) : Prop := ∃ i a : Nat, 1 ≤ i ∧ i ≤ n ∧ v = .int .i64 i ∧ c = .int .i64 a ∧ Hid (a < 32 * 64 ^ (i - 1)) ∧ Hid (goC (n - 1) a0 (s.data.toList.drop (p + 1)) = goC (n - i) a (s.data.toList.drop (p + i)))

set_option maxHeartbeats 1000000 in
theorem runeAt_two (s : ByteArray) (p : Nat) (w : World) (hs : s.size ≤ 140737488355328) (hp : p < s.size) (h1 : 194 ≤ s[p].toNat) (h2 : s[p].toNat < 224) : Calls Tryz.prog 31 #[.string s, .int .i64 p] w fun e w' => e = .returned (.tuple #[.int .i64 (raL (s.data.toList.drop p)).1, .int .i64 (raL (s.data.toList.drop p)).2]) ∧ w' = w := by
  rw [drop_at s p hp, raL, if_neg (by omega), if_pos ⟨h1, h2⟩]
  have h0 : 128 ≤ s[p].toNat := by omega
  have ha : bits .and .i64 ((s[p].toNat : Nat) : Int) 31 = ((s[p].toNat % 32 : Nat) : Int) := by rw [and31 _ (by omega) (by omega)]; omega
  have b1 : decide (((s[p].toNat : Nat) : Int) < 224) = true := by simp; omega
  have HR : RA s p 2 (s[p].toNat % 32) (.int .i64 ((s[p].toNat % 32 : Nat) : Int)) (.int .i64 ((1 : Nat) : Int)) := ⟨1, _, by omega, by omega, rfl, rfl, Lib.hid (by simp; omega), Lib.hid rfl⟩
  go_enter Tryz.func31, Tryz.ntmps31
  go_wp2
  go_loop [6, 9] (fun c v => RA s p 2 (s[p].toNat % 32) c v) (fun _ v => 2 - (intOf v).toNat)
  case atStart => simpa using HR
  case round =>
    clear HR ha b1
    obtain ⟨i, a, hi1, hi2, rfl, rfl, HA, HG⟩ := hrel
    by_cases hlt : i < 2
    · by_cases hend : p + i < s.size
      · have hb : s[p + i].toNat < 256 := s[p + i].toNat_lt
        have hd := bnd i a hi1 (by omega) HA.out s[p + i].toNat
        have hd1 := hd.1
        have HD := Lib.hid hd.2
        clear hd
        have e3 : bits .and .u8 ((s[p + i].toNat : Nat) : Int) 63 = ((s[p + i].toNat : Nat) : Int) % 64 := by
          have := and63u ⟨s[p + i].toNat, hb⟩; simp at this; exact this
        have e4 : bits .or .i64 ((a : Int) * 64) (((s[p + i].toNat : Nat) : Int) % 64) = (a : Int) * 64 + ((s[p + i].toNat : Nat) : Int) % 64 := or_at 6 _ _ (by omega) (by omega) (by omega) (by omega) (by omega) (by omega)
        have hq := and192 ⟨s[p + i].toNat, hb⟩
        by_cases hc : s[p + i].toNat / 64 = 2
        · have e1 : (bits .and .u8 ((s[p + i].toNat : Nat) : Int) 192 == 128) = true := by simpa [hc] using hq
          have e2 : (bits .and .u8 ((s[p + i].toNat : Nat) : Int) 192 != 128) = false := by simp only [bne, e1]; rfl
          clear hq
          have HC := Lib.hid hc
          clear hc
          go_wp2
          go_round
          case rel =>
            refine ⟨i + 1, a * 64 + s[p + i].toNat % 64, by omega, by omega, by go_num, ?_, HD, Lib.hid ?_⟩
            · go_num
            · rw [HG.out, drop_at s (p + i) hend]
              obtain ⟨j, hj⟩ : ∃ j, 2 - i = j + 1 := ⟨1 - i, by omega⟩
              rw [hj, goC, if_pos HC.out, show 2 - (i + 1) = j by omega, Nat.add_assoc]
          case measure => simp [intOf]; omega
        · have e1 : (bits .and .u8 ((s[p + i].toNat : Nat) : Int) 192 == 128) = false := by simpa [hc] using hq
          have e2 : (bits .and .u8 ((s[p + i].toNat : Nat) : Int) 192 != 128) = true := by simp only [bne, e1]; rfl
          clear hq
          have HC := Lib.hid hc
          clear hc
          go_wp2
          go_ret2
          have : goC (2 - 1) (s[p].toNat % 32) (s.data.toList.drop (p + 1)) = none := by
            rw [HG.out, drop_at s (p + i) hend]
            obtain ⟨j, hj⟩ : ∃ j, 2 - i = j + 1 := ⟨1 - i, by omega⟩
            rw [hj, goC, if_neg HC.out]
          rw [show (1 : Nat) = 2 - 1 from rfl, this]
          exact ⟨rfl, rfl⟩
      · go_wp2
        go_ret2
        have : goC (2 - 1) (s[p].toNat % 32) (s.data.toList.drop (p + 1)) = none := by
          rw [HG.out, drop_end s (p + i) (by omega)]
          obtain ⟨j, hj⟩ : ∃ j, 2 - i = j + 1 := ⟨1 - i, by omega⟩
          rw [hj, goC]
        rw [show (1 : Nat) = 2 - 1 from rfl, this]
        exact ⟨rfl, rfl⟩
    · obtain rfl : i = 2 := by omega
      have hg := HG.out
      simp only [Nat.sub_self, goC, Nat.reduceSub] at hg
      have HG' := Lib.hid hg
      clear hg HG
      have hx : a < 8388608 := by have := HA.out; simp at this; omega
      by_cases q1 : a < 128
      · go_wp2
        all_goals (go_ret2; rw [HG'.out, fin, if_pos (by omega)]; exact ⟨rfl, rfl⟩)
      by_cases q2 : 1114111 < a
      · go_wp2
        all_goals (go_ret2; rw [HG'.out, fin, if_pos (by omega)]; exact ⟨rfl, rfl⟩)
      by_cases q3 : 55296 ≤ a
      · by_cases q4 : a < 57344
        · go_wp2
          all_goals (go_ret2; rw [HG'.out, fin, if_pos (by omega)]; exact ⟨rfl, rfl⟩)
        · go_wp2
          all_goals (go_ret2; rw [HG'.out, fin, if_neg (by omega)]; exact ⟨rfl, rfl⟩)
      · go_wp2
        all_goals (go_ret2; rw [HG'.out, fin, if_neg (by omega)]; exact ⟨rfl, rfl⟩)
set_option maxHeartbeats 1000000 in
theorem runeAt_three (s : ByteArray) (p : Nat) (w : World) (hs : s.size ≤ 140737488355328) (hp : p < s.size) (h1 : 224 ≤ s[p].toNat) (h2 : s[p].toNat < 240) : Calls Tryz.prog 31 #[.string s, .int .i64 p] w fun e w' => e = .returned (.tuple #[.int .i64 (raL (s.data.toList.drop p)).1, .int .i64 (raL (s.data.toList.drop p)).2]) ∧ w' = w := by
  rw [drop_at s p hp, raL, if_neg (by omega), if_neg (by omega), if_pos ⟨h1, h2⟩]
  have h0 : 128 ≤ s[p].toNat := by omega
  have ha : bits .and .i64 ((s[p].toNat : Nat) : Int) 15 = ((s[p].toNat % 16 : Nat) : Int) := by rw [and15 _ (by omega) (by omega)]; omega
  have b1 : decide (((s[p].toNat : Nat) : Int) < 224) = false := by simp; omega
  have b2 : decide (((s[p].toNat : Nat) : Int) < 240) = true := by simp; omega
  have HR : RA s p 3 (s[p].toNat % 16) (.int .i64 ((s[p].toNat % 16 : Nat) : Int)) (.int .i64 ((1 : Nat) : Int)) := ⟨1, _, by omega, by omega, rfl, rfl, Lib.hid (by simp; omega), Lib.hid rfl⟩
  go_enter Tryz.func31, Tryz.ntmps31
  go_wp2
  go_loop [6, 9] (fun c v => RA s p 3 (s[p].toNat % 16) c v) (fun _ v => 3 - (intOf v).toNat)
  case atStart => simpa using HR
  case round =>
    clear HR ha b1 b2
    obtain ⟨i, a, hi1, hi2, rfl, rfl, HA, HG⟩ := hrel
    by_cases hlt : i < 3
    · by_cases hend : p + i < s.size
      · have hb : s[p + i].toNat < 256 := s[p + i].toNat_lt
        have hd := bnd i a hi1 (by omega) HA.out s[p + i].toNat
        have hd1 := hd.1
        have HD := Lib.hid hd.2
        clear hd
        have e3 : bits .and .u8 ((s[p + i].toNat : Nat) : Int) 63 = ((s[p + i].toNat : Nat) : Int) % 64 := by
          have := and63u ⟨s[p + i].toNat, hb⟩; simp at this; exact this
        have e4 : bits .or .i64 ((a : Int) * 64) (((s[p + i].toNat : Nat) : Int) % 64) = (a : Int) * 64 + ((s[p + i].toNat : Nat) : Int) % 64 := or_at 6 _ _ (by omega) (by omega) (by omega) (by omega) (by omega) (by omega)
        have hq := and192 ⟨s[p + i].toNat, hb⟩
        by_cases hc : s[p + i].toNat / 64 = 2
        · have e1 : (bits .and .u8 ((s[p + i].toNat : Nat) : Int) 192 == 128) = true := by simpa [hc] using hq
          have e2 : (bits .and .u8 ((s[p + i].toNat : Nat) : Int) 192 != 128) = false := by simp only [bne, e1]; rfl
          clear hq
          have HC := Lib.hid hc
          clear hc
          go_wp2
          go_round
          case rel =>
            refine ⟨i + 1, a * 64 + s[p + i].toNat % 64, by omega, by omega, by go_num, ?_, HD, Lib.hid ?_⟩
            · go_num
            · rw [HG.out, drop_at s (p + i) hend]
              obtain ⟨j, hj⟩ : ∃ j, 3 - i = j + 1 := ⟨2 - i, by omega⟩
              rw [hj, goC, if_pos HC.out, show 3 - (i + 1) = j by omega, Nat.add_assoc]
          case measure => simp [intOf]; omega
        · have e1 : (bits .and .u8 ((s[p + i].toNat : Nat) : Int) 192 == 128) = false := by simpa [hc] using hq
          have e2 : (bits .and .u8 ((s[p + i].toNat : Nat) : Int) 192 != 128) = true := by simp only [bne, e1]; rfl
          clear hq
          have HC := Lib.hid hc
          clear hc
          go_wp2
          go_ret2
          have : goC (3 - 1) (s[p].toNat % 16) (s.data.toList.drop (p + 1)) = none := by
            rw [HG.out, drop_at s (p + i) hend]
            obtain ⟨j, hj⟩ : ∃ j, 3 - i = j + 1 := ⟨2 - i, by omega⟩
            rw [hj, goC, if_neg HC.out]
          rw [show (2 : Nat) = 3 - 1 from rfl, this]
          exact ⟨rfl, rfl⟩
      · go_wp2
        go_ret2
        have : goC (3 - 1) (s[p].toNat % 16) (s.data.toList.drop (p + 1)) = none := by
          rw [HG.out, drop_end s (p + i) (by omega)]
          obtain ⟨j, hj⟩ : ∃ j, 3 - i = j + 1 := ⟨2 - i, by omega⟩
          rw [hj, goC]
        rw [show (2 : Nat) = 3 - 1 from rfl, this]
        exact ⟨rfl, rfl⟩
    · obtain rfl : i = 3 := by omega
      have hg := HG.out
      simp only [Nat.sub_self, goC, Nat.reduceSub] at hg
      have HG' := Lib.hid hg
      clear hg HG
      have hx : a < 8388608 := by have := HA.out; simp at this; omega
      by_cases q1 : a < 2048
      · go_wp2
        all_goals (go_ret2; rw [HG'.out, fin, if_pos (by omega)]; exact ⟨rfl, rfl⟩)
      by_cases q2 : 1114111 < a
      · go_wp2
        all_goals (go_ret2; rw [HG'.out, fin, if_pos (by omega)]; exact ⟨rfl, rfl⟩)
      by_cases q3 : 55296 ≤ a
      · by_cases q4 : a < 57344
        · go_wp2
          all_goals (go_ret2; rw [HG'.out, fin, if_pos (by omega)]; exact ⟨rfl, rfl⟩)
        · go_wp2
          all_goals (go_ret2; rw [HG'.out, fin, if_neg (by omega)]; exact ⟨rfl, rfl⟩)
      · go_wp2
        all_goals (go_ret2; rw [HG'.out, fin, if_neg (by omega)]; exact ⟨rfl, rfl⟩)
set_option maxHeartbeats 1000000 in
theorem runeAt_four (s : ByteArray) (p : Nat) (w : World) (hs : s.size ≤ 140737488355328) (hp : p < s.size) (h1 : 240 ≤ s[p].toNat) (h2 : s[p].toNat < 245) : Calls Tryz.prog 31 #[.string s, .int .i64 p] w fun e w' => e = .returned (.tuple #[.int .i64 (raL (s.data.toList.drop p)).1, .int .i64 (raL (s.data.toList.drop p)).2]) ∧ w' = w := by
  rw [drop_at s p hp, raL, if_neg (by omega), if_neg (by omega), if_neg (by omega), if_pos ⟨h1, h2⟩]
  have h0 : 128 ≤ s[p].toNat := by omega
  have ha : bits .and .i64 ((s[p].toNat : Nat) : Int) 7 = ((s[p].toNat % 8 : Nat) : Int) := by rw [and7 _ (by omega) (by omega)]; omega
  have b1 : decide (((s[p].toNat : Nat) : Int) < 224) = false := by simp; omega
  have b2 : decide (((s[p].toNat : Nat) : Int) < 240) = false := by simp; omega
  have b3 : decide (((s[p].toNat : Nat) : Int) < 245) = true := by simp; omega
  have HR : RA s p 4 (s[p].toNat % 8) (.int .i64 ((s[p].toNat % 8 : Nat) : Int)) (.int .i64 ((1 : Nat) : Int)) := ⟨1, _, by omega, by omega, rfl, rfl, Lib.hid (by simp; omega), Lib.hid rfl⟩
  go_enter Tryz.func31, Tryz.ntmps31
  go_wp2
  go_loop [6, 9] (fun c v => RA s p 4 (s[p].toNat % 8) c v) (fun _ v => 4 - (intOf v).toNat)
  case atStart => simpa using HR
  case round =>
    clear HR ha b1 b2 b3
    obtain ⟨i, a, hi1, hi2, rfl, rfl, HA, HG⟩ := hrel
    by_cases hlt : i < 4
    · by_cases hend : p + i < s.size
      · have hb : s[p + i].toNat < 256 := s[p + i].toNat_lt
        have hd := bnd i a hi1 (by omega) HA.out s[p + i].toNat
        have hd1 := hd.1
        have HD := Lib.hid hd.2
        clear hd
        have e3 : bits .and .u8 ((s[p + i].toNat : Nat) : Int) 63 = ((s[p + i].toNat : Nat) : Int) % 64 := by
          have := and63u ⟨s[p + i].toNat, hb⟩; simp at this; exact this
        have e4 : bits .or .i64 ((a : Int) * 64) (((s[p + i].toNat : Nat) : Int) % 64) = (a : Int) * 64 + ((s[p + i].toNat : Nat) : Int) % 64 := or_at 6 _ _ (by omega) (by omega) (by omega) (by omega) (by omega) (by omega)
        have hq := and192 ⟨s[p + i].toNat, hb⟩
        by_cases hc : s[p + i].toNat / 64 = 2
        · have e1 : (bits .and .u8 ((s[p + i].toNat : Nat) : Int) 192 == 128) = true := by simpa [hc] using hq
          have e2 : (bits .and .u8 ((s[p + i].toNat : Nat) : Int) 192 != 128) = false := by simp only [bne, e1]; rfl
          clear hq
          have HC := Lib.hid hc
          clear hc
          go_wp2
          go_round
          case rel =>
            refine ⟨i + 1, a * 64 + s[p + i].toNat % 64, by omega, by omega, by go_num, ?_, HD, Lib.hid ?_⟩
            · go_num
            · rw [HG.out, drop_at s (p + i) hend]
              obtain ⟨j, hj⟩ : ∃ j, 4 - i = j + 1 := ⟨3 - i, by omega⟩
              rw [hj, goC, if_pos HC.out, show 4 - (i + 1) = j by omega, Nat.add_assoc]
          case measure => simp [intOf]; omega
        · have e1 : (bits .and .u8 ((s[p + i].toNat : Nat) : Int) 192 == 128) = false := by simpa [hc] using hq
          have e2 : (bits .and .u8 ((s[p + i].toNat : Nat) : Int) 192 != 128) = true := by simp only [bne, e1]; rfl
          clear hq
          have HC := Lib.hid hc
          clear hc
          go_wp2
          go_ret2
          have : goC (4 - 1) (s[p].toNat % 8) (s.data.toList.drop (p + 1)) = none := by
            rw [HG.out, drop_at s (p + i) hend]
            obtain ⟨j, hj⟩ : ∃ j, 4 - i = j + 1 := ⟨3 - i, by omega⟩
            rw [hj, goC, if_neg HC.out]
          rw [show (3 : Nat) = 4 - 1 from rfl, this]
          exact ⟨rfl, rfl⟩
      · go_wp2
        go_ret2
        have : goC (4 - 1) (s[p].toNat % 8) (s.data.toList.drop (p + 1)) = none := by
          rw [HG.out, drop_end s (p + i) (by omega)]
          obtain ⟨j, hj⟩ : ∃ j, 4 - i = j + 1 := ⟨3 - i, by omega⟩
          rw [hj, goC]
        rw [show (3 : Nat) = 4 - 1 from rfl, this]
        exact ⟨rfl, rfl⟩
    · obtain rfl : i = 4 := by omega
      have hg := HG.out
      simp only [Nat.sub_self, goC, Nat.reduceSub] at hg
      have HG' := Lib.hid hg
      clear hg HG
      have hx : a < 8388608 := by have := HA.out; simp at this; omega
      by_cases q1 : a < 65536
      · go_wp2
        all_goals (go_ret2; rw [HG'.out, fin, if_pos (by omega)]; exact ⟨rfl, rfl⟩)
      by_cases q2 : 1114111 < a
      · go_wp2
        all_goals (go_ret2; rw [HG'.out, fin, if_pos (by omega)]; exact ⟨rfl, rfl⟩)
      by_cases q3 : 55296 ≤ a
      · by_cases q4 : a < 57344
        · go_wp2
          all_goals (go_ret2; rw [HG'.out, fin, if_pos (by omega)]; exact ⟨rfl, rfl⟩)
        · go_wp2
          all_goals (go_ret2; rw [HG'.out, fin, if_neg (by omega)]; exact ⟨rfl, rfl⟩)
      · go_wp2
        all_goals (go_ret2; rw [HG'.out, fin, if_neg (by omega)]; exact ⟨rfl, rfl⟩)

/-- spec.runeAt, at every place of every text. -/
theorem runeAt_any (s : ByteArray) (p : Nat) (w : World) (hs : s.size ≤ 140737488355328) (hp2 : p ≤ 140737488355400) : Calls Tryz.prog 31 #[.string s, .int .i64 p] w fun e w' => e = .returned (.tuple #[.int .i64 (raL (s.data.toList.drop p)).1, .int .i64 (raL (s.data.toList.drop p)).2]) ∧ w' = w := by
  by_cases hp : p < s.size
  · have hb : s[p].toNat < 256 := s[p].toNat_lt
    by_cases h1 : s[p].toNat < 128
    · exact runeAt_one s p w hs hp h1
    by_cases h2 : s[p].toNat < 194
    · exact runeAt_bad s p w hs hp (by omega)
    by_cases h3 : s[p].toNat < 224
    · exact runeAt_two s p w hs hp (by omega) h3
    by_cases h4 : s[p].toNat < 240
    · exact runeAt_three s p w hs hp (by omega) h4
    by_cases h5 : s[p].toNat < 245
    · exact runeAt_four s p w hs hp (by omega) h5
    · exact runeAt_bad s p w hs hp (by omega)
  · exact runeAt_end s p w hs (by omega) hp2

end Go.Proofs.YtkaejhdncohgpaaGreatFmt
