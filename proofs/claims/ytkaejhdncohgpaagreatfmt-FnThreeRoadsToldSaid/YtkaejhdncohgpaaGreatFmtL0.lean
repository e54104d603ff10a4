/- The leaves of the reference's lexer: what each test on code points answers. No condition. -/
import Derived.Test.YtkaejhdncohgpaaGreatFmtB0
import Derived.Test.YtkaejhdncohgpaaGreatFmtM1
namespace Go.Proofs.YtkaejhdncohgpaaGreatFmt
set_option linter.all false
open Go.RowKit

theorem ret_bool {a b : Bool} (h : a = b) : Ending.returned (.bool a) = .returned (.bool b) := by rw [h]

theorem Starts_any (c : Int) (w : World) : Calls Tryz.prog 89 #[.int .i64 c] w fun e w' => e = .returned (.bool (starts c)) ∧ w' = w := by
  go_enter Tryz.func89, Tryz.ntmps89
  go_wp2
  all_goals (go_ret; exact ⟨ret_bool (by rw [Bool.eq_iff_iff]; simp [starts] <;> omega), rfl⟩)

theorem isDigit_any (c : Int) (w : World) : Calls Tryz.prog 90 #[.int .i64 c] w fun e w' => e = .returned (.bool (isDig c)) ∧ w' = w := by
  go_enter Tryz.func90, Tryz.ntmps90
  go_wp2
  all_goals (go_ret; exact ⟨ret_bool (by rw [Bool.eq_iff_iff]; simp [isDig] <;> omega), rfl⟩)

theorem isNewline_any (c : Int) (w : World) : Calls Tryz.prog 87 #[.int .i64 c] w fun e w' => e = .returned (.bool (isNl c)) ∧ w' = w := by
  go_enter Tryz.func87, Tryz.ntmps87
  go_wp2
  all_goals (go_ret; exact ⟨ret_bool (by rw [Bool.eq_iff_iff]; simp [isNl] <;> omega), rfl⟩)

theorem Continues_any (c : Int) (w : World) : Calls Tryz.prog 61 #[.int .i64 c] w fun e w' => e = .returned (.bool (conts c)) ∧ w' = w := by
  go_enter Tryz.func61, Tryz.ntmps61
  go_wp2_with (first | (go_at_call 89; refine (Starts_any _ _).mono ?_; rintro e w' ⟨rfl, rfl⟩) | (go_at_call 90; refine (isDigit_any _ _).mono ?_; rintro e w' ⟨rfl, rfl⟩))
  all_goals (go_ret; exact ⟨ret_bool (by first | rfl | (simp_all [conts]; done) | (rw [Bool.eq_iff_iff]; simp_all [conts] <;> omega)), rfl⟩)

theorem isSpace_any (c : Int) (w : World) : Calls Tryz.prog 58 #[.int .i64 c] w fun e w' => e = .returned (.bool (isSp c)) ∧ w' = w := by
  go_enter Tryz.func58, Tryz.ntmps58
  go_wp2_with (first | (go_at_call 87; refine (isNewline_any _ _).mono ?_; rintro e w' ⟨rfl, rfl⟩))
  all_goals (go_ret; exact ⟨ret_bool (by first | rfl | (simp_all [isSp]; done) | (rw [Bool.eq_iff_iff]; simp_all [isSp] <;> omega)), rfl⟩)

theorem escapes_any (a b : Int) (w : World) : Calls Tryz.prog 62 #[.int .i64 a, .int .i64 b] w fun e w' => e = .returned (.bool (escs a b)) ∧ w' = w := by
  go_enter Tryz.func62, Tryz.ntmps62
  go_wp2_with (first | (go_at_call 87; refine (isNewline_any _ _).mono ?_; rintro e w' ⟨rfl, rfl⟩))
  all_goals (go_ret; exact ⟨ret_bool (by first | rfl | (simp_all [escs]; done) | (rw [Bool.eq_iff_iff]; simp_all [escs] <;> omega)), rfl⟩)

theorem identifies_any (a b c : Int) (w : World) : Calls Tryz.prog 63 #[.int .i64 a, .int .i64 b, .int .i64 c] w fun e w' => e = .returned (.bool (idents a b c)) ∧ w' = w := by
  go_enter Tryz.func63, Tryz.ntmps63
  go_wp2_with (first | (go_at_call 89; refine (Starts_any _ _).mono ?_; rintro e w' ⟨rfl, rfl⟩) | (go_at_call 62; refine (escapes_any _ _ _).mono ?_; rintro e w' ⟨rfl, rfl⟩))
  all_goals (go_ret; exact ⟨ret_bool (by first | rfl | (simp_all [idents]; done) | (rw [Bool.eq_iff_iff]; simp_all [idents] <;> omega)), rfl⟩)

theorem counts_any (a b c : Int) (w : World) : Calls Tryz.prog 64 #[.int .i64 a, .int .i64 b, .int .i64 c] w fun e w' => e = .returned (.bool (cnts a b c)) ∧ w' = w := by
  go_enter Tryz.func64, Tryz.ntmps64
  go_wp2_with (first | (go_at_call 90; refine (isDigit_any _ _).mono ?_; rintro e w' ⟨rfl, rfl⟩))
  all_goals (go_ret; exact ⟨ret_bool (by first | rfl | (simp_all [cnts]; done) | (rw [Bool.eq_iff_iff]; simp_all [cnts] <;> omega)), rfl⟩)

theorem isUnprintable_any (c : Int) (w : World) : Calls Tryz.prog 124 #[.int .i64 c] w fun e w' => e = .returned (.bool (unpr c)) ∧ w' = w := by
  go_enter Tryz.func124, Tryz.ntmps124
  go_wp2
  all_goals (go_ret; exact ⟨ret_bool (by first | rfl | (simp_all [unpr]; done) | (rw [Bool.eq_iff_iff]; simp_all [unpr] <;> omega)), rfl⟩)

theorem ret_int {k : IntKind} {a b : Int} (h : a = b) : Ending.returned (.int k a) = .returned (.int k b) := by rw [h]
theorem hex_any (c : Int) (w : World) (h0 : -10 ≤ c) (h1 : c ≤ 1114111) : Calls Tryz.prog 94 #[.int .i64 c] w fun e w' => e = .returned (.int .i64 (hexv c)) ∧ w' = w := by
  by_cases hd : isDig c = true
  · have hd' : 48 ≤ c ∧ c ≤ 57 := by simpa [isDig] using hd
    obtain ⟨d0, d1⟩ := hd'
    go_enter Tryz.func94, Tryz.ntmps94
    go_wp2_with (go_at_call 90; refine (isDigit_any _ _).mono ?_; rintro e w' ⟨rfl, rfl⟩)
    go_ret
    exact ⟨ret_int (by simp [hexv, hd]), rfl⟩
  · go_enter Tryz.func94, Tryz.ntmps94
    go_wp2_with (go_at_call 90; refine (isDigit_any _ _).mono ?_; rintro e w' ⟨rfl, rfl⟩)
    all_goals (go_ret; refine ⟨ret_int ?_, rfl⟩; unfold hexv; rw [if_neg hd])
    all_goals first | (rw [if_pos (by omega)]; omega) | (rw [if_neg (by omega), if_pos (by omega)]; omega) | rw [if_neg (by omega), if_neg (by omega)]

theorem ret_string {a b : ByteArray} (h : a = b) : Ending.returned (.string a) = .returned (.string b) := by rw [h]
theorem enc2 (n : Nat) (h : n < 2048) : (⟨#[UInt8.ofNat (bits .or .i64 192 ((n : Int) / 64) % 256).toNat, UInt8.ofNat (bits .or .i64 128 (bits .and .i64 (n : Int) 63) % 256).toNat]⟩ : ByteArray) = ⟨[UInt8.ofNat (192 + n / 64), UInt8.ofNat (128 + n % 64)].toArray⟩ := by
  rw [and63 _ (by omega) (by omega), or_at 6 192 _ (by omega) (by decide) (by decide) (by omega) (by omega) (by omega), or_at 6 128 _ (by omega) (by decide) (by decide) (by omega) (by omega) (by omega)]
  rw [show ((192 + (n : Int) / 64) % 256).toNat = 192 + n / 64 by omega, show ((128 + (n : Int) % 64) % 256).toNat = 128 + n % 64 by omega]
theorem enc3 (n : Nat) (h : n < 65536) : (⟨#[UInt8.ofNat (bits .or .i64 224 ((n : Int) / 4096) % 256).toNat, UInt8.ofNat (bits .or .i64 128 (bits .and .i64 ((n : Int) / 64) 63) % 256).toNat, UInt8.ofNat (bits .or .i64 128 (bits .and .i64 (n : Int) 63) % 256).toNat]⟩ : ByteArray) = ⟨[UInt8.ofNat (224 + n / 4096), UInt8.ofNat (128 + n / 64 % 64), UInt8.ofNat (128 + n % 64)].toArray⟩ := by
  rw [and63 (n : Int) (by omega) (by omega), and63 _ (by omega) (by omega), or_at 5 224 _ (by omega) (by decide) (by decide) (by omega) (by omega) (by omega), or_at 6 128 ((n : Int) / 64 % 64) (by omega) (by decide) (by decide) (by omega) (by omega) (by omega), or_at 6 128 _ (by omega) (by decide) (by decide) (by omega) (by omega) (by omega)]
  rw [show ((224 + (n : Int) / 4096) % 256).toNat = 224 + n / 4096 by omega, show ((128 + (n : Int) / 64 % 64) % 256).toNat = 128 + n / 64 % 64 by omega, show ((128 + (n : Int) % 64) % 256).toNat = 128 + n % 64 by omega]
theorem enc4 (n : Nat) (h : n < 2097152) : (⟨#[UInt8.ofNat (bits .or .i64 240 ((n : Int) / 262144) % 256).toNat, UInt8.ofNat (bits .or .i64 128 (bits .and .i64 ((n : Int) / 4096) 63) % 256).toNat, UInt8.ofNat (bits .or .i64 128 (bits .and .i64 ((n : Int) / 64) 63) % 256).toNat, UInt8.ofNat (bits .or .i64 128 (bits .and .i64 (n : Int) 63) % 256).toNat]⟩ : ByteArray) = ⟨[UInt8.ofNat (240 + n / 262144), UInt8.ofNat (128 + n / 4096 % 64), UInt8.ofNat (128 + n / 64 % 64), UInt8.ofNat (128 + n % 64)].toArray⟩ := by
  rw [and63 (n : Int) (by omega) (by omega), and63 ((n : Int) / 64) (by omega) (by omega), and63 _ (by omega) (by omega), or_at 4 240 _ (by omega) (by decide) (by decide) (by omega) (by omega) (by omega), or_at 6 128 ((n : Int) / 4096 % 64) (by omega) (by decide) (by decide) (by omega) (by omega) (by omega), or_at 6 128 ((n : Int) / 64 % 64) (by omega) (by decide) (by decide) (by omega) (by omega) (by omega), or_at 6 128 _ (by omega) (by decide) (by decide) (by omega) (by omega) (by omega)]
  rw [show ((240 + (n : Int) / 262144) % 256).toNat = 240 + n / 262144 by omega, show ((128 + (n : Int) / 4096 % 64) % 256).toNat = 128 + n / 4096 % 64 by omega, show ((128 + (n : Int) / 64 % 64) % 256).toNat = 128 + n / 64 % 64 by omega, show ((128 + (n : Int) % 64) % 256).toNat = 128 + n % 64 by omega]

set_option maxRecDepth 100000 in
theorem encoded_any (c : Int) (w : World) (h0 : -10 ≤ c) (h1 : c ≤ 1114111) : Calls Tryz.prog 68 #[.int .i64 c] w fun e w' => e = .returned (.string ⟨(encd c).toArray⟩) ∧ Kp (fun _ => False) w w' := by
  have k1 : ∀ a, (convert 34 9 (.slice (some ⟨w.heap.size, 0, none⟩) 1 1)).run Tryz.prog (w.alloc (.cells #[.int .u8 a] 5)) = .ok (.string ⟨#[UInt8.ofNat a.toNat]⟩) (w.alloc (.cells #[.int .u8 a] 5)) := fun a => conv_lit w [a] 1 rfl
  have k2 : ∀ a b, (convert 34 9 (.slice (some ⟨w.heap.size, 0, none⟩) 2 2)).run Tryz.prog (w.alloc (.cells #[.int .u8 a, .int .u8 b] 5)) = .ok (.string ⟨#[UInt8.ofNat a.toNat, UInt8.ofNat b.toNat]⟩) (w.alloc (.cells #[.int .u8 a, .int .u8 b] 5)) := fun a b => conv_lit w [a, b] 2 rfl
  have k3 : ∀ a b d, (convert 34 9 (.slice (some ⟨w.heap.size, 0, none⟩) 3 3)).run Tryz.prog (w.alloc (.cells #[.int .u8 a, .int .u8 b, .int .u8 d] 5)) = .ok (.string ⟨#[UInt8.ofNat a.toNat, UInt8.ofNat b.toNat, UInt8.ofNat d.toNat]⟩) (w.alloc (.cells #[.int .u8 a, .int .u8 b, .int .u8 d] 5)) := fun a b d => conv_lit w [a, b, d] 3 rfl
  have k4 : ∀ a b d e, (convert 34 9 (.slice (some ⟨w.heap.size, 0, none⟩) 4 4)).run Tryz.prog (w.alloc (.cells #[.int .u8 a, .int .u8 b, .int .u8 d, .int .u8 e] 5)) = .ok (.string ⟨#[UInt8.ofNat a.toNat, UInt8.ofNat b.toNat, UInt8.ofNat d.toNat, UInt8.ofNat e.toNat]⟩) (w.alloc (.cells #[.int .u8 a, .int .u8 b, .int .u8 d, .int .u8 e] 5)) := fun a b d e => conv_lit w [a, b, d, e] 4 rfl
  by_cases c1 : c < 128
  · go_enter Tryz.func68, Tryz.ntmps68
    go_wp2
    go_ret
    refine ⟨?_, (Kp.refl _ _).alloc _⟩
    simp [encd, c1]
  · obtain ⟨n, rfl⟩ : ∃ n : Nat, c = n := ⟨c.toNat, by omega⟩
    by_cases c2 : (n : Int) < 2048
    · have E := Lib.hid (enc2 n (by omega))
      go_enter Tryz.func68, Tryz.ntmps68
      go_wp2
      go_ret
      refine ⟨?_, (Kp.refl _ _).alloc _⟩
      rw [encd, if_neg (by omega), if_pos (by omega)]
      exact ret_string E.out
    · by_cases c3 : (n : Int) < 65536
      · have E := Lib.hid (enc3 n (by omega))
        go_enter Tryz.func68, Tryz.ntmps68
        go_wp2
        go_ret
        refine ⟨?_, (Kp.refl _ _).alloc _⟩
        rw [encd, if_neg (by omega), if_neg (by omega), if_pos (by omega)]
        exact ret_string E.out
      · have E := Lib.hid (enc4 n (by omega))
        go_enter Tryz.func68, Tryz.ntmps68
        go_wp2
        go_ret
        refine ⟨?_, (Kp.refl _ _).alloc _⟩
        rw [encd, if_neg (by omega), if_neg (by omega), if_neg (by omega)]
        exact ret_string E.out

end Go.Proofs.YtkaejhdncohgpaaGreatFmt
