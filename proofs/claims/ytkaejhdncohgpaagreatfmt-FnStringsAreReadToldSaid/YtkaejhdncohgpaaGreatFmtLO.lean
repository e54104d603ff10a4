/- The laws' comparison of a token that was read with an item that is a dimension; a text that is read as items, by the program's comparison. Condition: the text has at most 2^40 bytes. -/
import Derived.Test.YtkaejhdncohgpaaGreatFmtM9
import Derived.Test.YtkaejhdncohgpaaGreatFmtLN
import Derived.Test.YtkaejhdncohgpaaGreatFmtM11
namespace Go.Proofs.YtkaejhdncohgpaaGreatFmt
set_option linter.all false
open Go.RowKit Go.Lib
set_option maxRecDepth 100000
set_option maxHeartbeats 4000000

/-- What the comparison of dimensions reads. -/
def DmS (w2 : World) (b1 b2 un : Nat) (xt : List UInt8) (w' : World) : Prop := Kp (fun _ => False) w2 w' ∧ w'.cell? ⟨b1, 3, none⟩ = some (.int .i64 un) ∧ w'.cell? ⟨b2, 1, none⟩ = some (.int .i64 un) ∧ w'.cell? ⟨b2, 2, none⟩ = some (.string (bstr xt))
theorem DmS.kp {w2 : World} {b1 b2 un : Nat} {xt : List UInt8} {wx w9 : World} (h : DmS w2 b1 b2 un xt wx) (h1 : b1 < w2.heap.size) (h2 : b2 < w2.heap.size) (hk : Kp (fun _ => False) wx w9) : DmS w2 b1 b2 un xt w9 := by
  obtain ⟨s0, s1, s2, s3⟩ := h
  exact ⟨s0.trans hk, keepS hk s0 h1 s1, keepS hk s0 h2 s2, keepS hk s0 h2 s3⟩
theorem is_dim (text : ByteArray) (r : Tk × Bool) (x : It) (w : World) (h : IsR text.data.toList r.1 x) (h1 : r.1.st ≤ r.1.en) (h2 : r.1.en ≤ text.size) (hx : x.k = 26) (hsz : text.size ≤ 1099511627776) :
    Calls Tryz.prog 25 #[.string text, rdV r, x.val] w fun e w' => e = .returned (.bool true) ∧ Kp (fun _ => False) w w' := by
  obtain ⟨⟨k, st, en, un, id, tx⟩, b⟩ := r
  obtain ⟨xk, xu, xt, xs⟩ := x
  simp only at h1 h2 hx
  subst hx
  cases h with
  | text hk hx e => simp only at hx; omega
  | close hk hx => simp only at hx; omega
  | raw hk h3 h4 h5 e => exact absurd rfl h5
  | dim hk hx hu hl hl2 e d =>
    simp only at hk hu hl hl2 e d
    subst hk hu
    unfold rdV It.val
    have hK : Kp (fun _ => False) w ((w.alloc (.cells #[.int .i64 26, .int .i64 st, .int .i64 en, .int .i64 un, .bool id, .string (bstr tx), .bool b] 51)).alloc (.cells #[.int .i64 26, .int .i64 un, .string (bstr xt), .int .i64 xs] 54)) := ((Kp.refl _ w).alloc _).alloc _
    have hB2 := heap_alloc_new (w.alloc (.cells #[.int .i64 26, .int .i64 st, .int .i64 en, .int .i64 un, .bool id, .string (bstr tx), .bool b] 51)) (.cells #[.int .i64 26, .int .i64 un, .string (bstr xt), .int .i64 xs] 54)
    have hsz1 : (w.alloc (.cells #[.int .i64 26, .int .i64 st, .int .i64 en, .int .i64 un, .bool id, .string (bstr tx), .bool b] 51)).heap.size = w.heap.size + 1 := by simp
    rw [hsz1] at hB2
    have hB1 : ((w.alloc (.cells #[.int .i64 26, .int .i64 st, .int .i64 en, .int .i64 un, .bool id, .string (bstr tx), .bool b] 51)).alloc (.cells #[.int .i64 26, .int .i64 un, .string (bstr xt), .int .i64 xs] 54)).heap[w.heap.size]? = some (.cells #[.int .i64 26, .int .i64 st, .int .i64 en, .int .i64 un, .bool id, .string (bstr tx), .bool b] 51) := by
      rw [Below.heap_alloc _ _ _ (by rw [hsz1]; omega)]; exact heap_alloc_new w _
    obtain ⟨raw, hraw⟩ : ∃ raw, text.extract st en = raw := ⟨_, rfl⟩
    have hrl : raw.data.toList = (text.data.toList.drop st).take (en - st) := by rw [← hraw]; simp [ByteArray.data_extract, List.extract_eq_take_drop]
    have hrs : raw.size = en - st := by rw [← hraw]; simp; omega
    have hxs : (bstr xt).size = xt.length := bstr_size xt
    have hEQ : raw.extract 0 un = (bstr xt).extract 0 un := by
      apply ByteArray.ext
      simp only [ByteArray.data_extract, ← Array.toList_inj, Array.toList_extract, List.extract_eq_take_drop, hrl, Nat.sub_zero, List.drop_zero, e]
      simp [bstr]
    have hXD : (bstr xt).extract un (bstr xt).size = bstr (xt.drop un) := by
      apply ByteArray.ext
      simp only [ByteArray.data_extract, ← Array.toList_inj, Array.toList_extract, List.extract_eq_take_drop, hxs]
      show List.take (xt.length - un) (List.drop un xt) = List.drop un xt
      exact List.take_of_length_le (by simp)
    have hrd : (raw.extract un raw.size).data.toList = ((text.data.toList.drop st).take (en - st)).drop un := by
      simp only [ByteArray.data_extract, Array.toList_extract, List.extract_eq_take_drop, hrl]
      rw [List.take_of_length_le]
      rw [List.length_drop, List.length_take, hrs]; omega
    have hD := Decoded_any (raw.extract un raw.size) ((en - st) + 1)
    rw [hrd, d] at hD
    have hds : (raw.extract un raw.size).size ≤ en - st := by simp; omega
    have HD := Lib.hid hD
    have HEQ := Lib.hid hEQ
    have HXD := Lib.hid hXD
    have HRS := Lib.hid hrs
    have hu1 : un ≤ raw.size := by omega
    have hu2 : un ≤ (bstr xt).size := by omega
    have HK := Lib.hid hK
    have HB1 := Lib.hid hB1
    have HB2 := Lib.hid hB2
    clear hK hB1 hB2 hsz1 hrl hrs hEQ hXD hrd hD hl hl2 e d hxs
    go_enter Tryz.func25, Tryz.ntmps25
    go_upto_region 12 with fail
    generalize (w.alloc (.cells #[.int .i64 26, .int .i64 st, .int .i64 en, .int .i64 un, .bool id, .string (bstr tx), .bool b] 51)).alloc (.cells #[.int .i64 26, .int .i64 un, .string (bstr xt), .int .i64 xs] 54) = w2 at *
    have hb1 : w.heap.size < w2.heap.size := (Array.getElem?_eq_some_iff.1 HB1.out).1
    have hb2 : w.heap.size + 1 < w2.heap.size := (Array.getElem?_eq_some_iff.1 HB2.out).1
    obtain ⟨d0, d1, d2, d3, d4, d5, d6⟩ := cellsR HB1.out
    obtain ⟨x0, x1, x2, x3⟩ := cells4 HB2.out
    refine wp_region_held_drew (S := DmS w2 w.heap.size (w.heap.size + 1) un xt) (by kernel_rfl) ⟨(Kp.refl _ w2).drew, d3, x1, x2⟩ (fun hHeld => ?_)
    refine wpAnyH_take (i := 0) (oi := ⟨some 38, _, _, _, _, _⟩) (v := .pointer (some ⟨w.heap.size, 0, none⟩)) rfl (by kernel_rfl) (by kernel_rfl) (by kernel_rfl) (fun _ _ _ h => h) (Or.inl ⟨by kernel_rfl, ?_⟩) (by assumption) ?_
    · (intro w' hS; obtain ⟨s0, s1, s2, s3⟩ := hS; go_simp)
    simp only [Act.put, List.setIfInBounds_toArray, List.set_cons_zero, List.set_cons_succ]
    refine wpAnyH_take (i := 1) (oi := ⟨some 39, _, _, _, _, _⟩) (v := .pointer (some ⟨w.heap.size, 3, none⟩)) rfl (by kernel_rfl) (by kernel_rfl) (by kernel_rfl) (fun _ _ _ h => h) (Or.inl ⟨by kernel_rfl, ?_⟩) (by assumption) ?_
    · (intro w' hS; obtain ⟨s0, s1, s2, s3⟩ := hS; go_simp)
    simp only [Act.put, List.setIfInBounds_toArray, List.set_cons_zero, List.set_cons_succ]
    refine wpAnyH_take (i := 2) (oi := ⟨some 40, _, _, _, _, _⟩) (v := .int .i64 un) rfl (by kernel_rfl) (by kernel_rfl) (by kernel_rfl) (fun _ _ _ h => h) (Or.inl ⟨by kernel_rfl, ?_⟩) (by assumption) ?_
    · (intro w' hS; obtain ⟨s0, s1, s2, s3⟩ := hS; go_simp)
    simp only [Act.put, List.setIfInBounds_toArray, List.set_cons_zero, List.set_cons_succ]
    refine wpAnyH_take (i := 3) (oi := ⟨some 41, _, _, _, _, _⟩) (v := .pointer (some ⟨(w.heap.size + 1), 1, none⟩)) rfl (by kernel_rfl) (by kernel_rfl) (by kernel_rfl) (fun _ _ _ h => h) (Or.inl ⟨by kernel_rfl, ?_⟩) (by assumption) ?_
    · (intro w' hS; obtain ⟨s0, s1, s2, s3⟩ := hS; go_simp)
    simp only [Act.put, List.setIfInBounds_toArray, List.set_cons_zero, List.set_cons_succ]
    refine wpAnyH_take (i := 4) (oi := ⟨some 42, _, _, _, _, _⟩) (v := .int .i64 un) rfl (by kernel_rfl) (by kernel_rfl) (by kernel_rfl) (fun _ _ _ h => h) (Or.inl ⟨by kernel_rfl, ?_⟩) (by assumption) ?_
    · (intro w' hS; obtain ⟨s0, s1, s2, s3⟩ := hS; go_simp)
    simp only [Act.put, List.setIfInBounds_toArray, List.set_cons_zero, List.set_cons_succ]
    refine wpAnyH_take (i := 5) (oi := ⟨some 43, _, _, _, _, _⟩) (v := .bool true) rfl (by kernel_rfl) (by kernel_rfl) (by kernel_rfl) (fun _ _ _ h => h) (Or.inl ⟨by kernel_rfl, ?_⟩) (by assumption) ?_
    · (intro w' hS; obtain ⟨s0, s1, s2, s3⟩ := hS; go_simp)
    simp only [Act.put, List.setIfInBounds_toArray, List.set_cons_zero, List.set_cons_succ]
    refine wpAnyH_take (i := 6) (oi := ⟨some 44, _, _, _, _, _⟩) (v := .bool true) rfl (by kernel_rfl) (by kernel_rfl) (by kernel_rfl) (fun _ _ _ h => h) (Or.inl ⟨by kernel_rfl, ?_⟩) (by assumption) ?_
    · (intro w' hS; obtain ⟨s0, s1, s2, s3⟩ := hS; go_simp)
    simp only [Act.put, List.setIfInBounds_toArray, List.set_cons_zero, List.set_cons_succ]
    refine wpAnyH_take (i := 7) (oi := ⟨some 45, _, _, _, _, _⟩) (v := .string raw) rfl (by kernel_rfl) (by kernel_rfl) (by kernel_rfl) (fun _ _ _ h => h) (Or.inl ⟨by kernel_rfl, ?_⟩) (by assumption) ?_
    · (intro w' hS; obtain ⟨s0, s1, s2, s3⟩ := hS; go_simp)
    simp only [Act.put, List.setIfInBounds_toArray, List.set_cons_zero, List.set_cons_succ]
    refine wpAnyH_take (i := 8) (oi := ⟨some 46, _, _, _, _, _⟩) (v := .pointer (some ⟨w.heap.size, 0, none⟩)) rfl (by kernel_rfl) (by kernel_rfl) (by kernel_rfl) (fun _ _ _ h => h) (Or.inl ⟨by kernel_rfl, ?_⟩) (by assumption) ?_
    · (intro w' hS; obtain ⟨s0, s1, s2, s3⟩ := hS; go_simp)
    simp only [Act.put, List.setIfInBounds_toArray, List.set_cons_zero, List.set_cons_succ]
    refine wpAnyH_take (i := 9) (oi := ⟨some 47, _, _, _, _, _⟩) (v := .pointer (some ⟨w.heap.size, 3, none⟩)) rfl (by kernel_rfl) (by kernel_rfl) (by kernel_rfl) (fun _ _ _ h => h) (Or.inl ⟨by kernel_rfl, ?_⟩) (by assumption) ?_
    · (intro w' hS; obtain ⟨s0, s1, s2, s3⟩ := hS; go_simp)
    simp only [Act.put, List.setIfInBounds_toArray, List.set_cons_zero, List.set_cons_succ]
    refine wpAnyH_take (i := 10) (oi := ⟨some 48, _, _, _, _, _⟩) (v := .int .i64 un) rfl (by kernel_rfl) (by kernel_rfl) (by kernel_rfl) (fun _ _ _ h => h) (Or.inl ⟨by kernel_rfl, ?_⟩) (by assumption) ?_
    · (intro w' hS; obtain ⟨s0, s1, s2, s3⟩ := hS; go_simp)
    simp only [Act.put, List.setIfInBounds_toArray, List.set_cons_zero, List.set_cons_succ]
    refine wpAnyH_take (i := 11) (oi := ⟨some 49, _, _, _, _, _⟩) (v := .string (raw.extract 0 un)) rfl (by kernel_rfl) (by kernel_rfl) (by kernel_rfl) (fun _ _ _ h => h) (Or.inl ⟨by kernel_rfl, ?_⟩) (by assumption) ?_
    · (intro w' hS; obtain ⟨s0, s1, s2, s3⟩ := hS; go_simp)
    simp only [Act.put, List.setIfInBounds_toArray, List.set_cons_zero, List.set_cons_succ]
    refine wpAnyH_take (i := 12) (oi := ⟨some 50, _, _, _, _, _⟩) (v := .pointer (some ⟨(w.heap.size + 1), 2, none⟩)) rfl (by kernel_rfl) (by kernel_rfl) (by kernel_rfl) (fun _ _ _ h => h) (Or.inl ⟨by kernel_rfl, ?_⟩) (by assumption) ?_
    · (intro w' hS; obtain ⟨s0, s1, s2, s3⟩ := hS; go_simp)
    simp only [Act.put, List.setIfInBounds_toArray, List.set_cons_zero, List.set_cons_succ]
    refine wpAnyH_take (i := 13) (oi := ⟨some 51, _, _, _, _, _⟩) (v := .string (bstr xt)) rfl (by kernel_rfl) (by kernel_rfl) (by kernel_rfl) (fun _ _ _ h => h) (Or.inl ⟨by kernel_rfl, ?_⟩) (by assumption) ?_
    · (intro w' hS; obtain ⟨s0, s1, s2, s3⟩ := hS; go_simp)
    simp only [Act.put, List.setIfInBounds_toArray, List.set_cons_zero, List.set_cons_succ]
    refine wpAnyH_take (i := 14) (oi := ⟨some 52, _, _, _, _, _⟩) (v := .pointer (some ⟨(w.heap.size + 1), 1, none⟩)) rfl (by kernel_rfl) (by kernel_rfl) (by kernel_rfl) (fun _ _ _ h => h) (Or.inl ⟨by kernel_rfl, ?_⟩) (by assumption) ?_
    · (intro w' hS; obtain ⟨s0, s1, s2, s3⟩ := hS; go_simp)
    simp only [Act.put, List.setIfInBounds_toArray, List.set_cons_zero, List.set_cons_succ]
    refine wpAnyH_take (i := 15) (oi := ⟨some 53, _, _, _, _, _⟩) (v := .int .i64 un) rfl (by kernel_rfl) (by kernel_rfl) (by kernel_rfl) (fun _ _ _ h => h) (Or.inl ⟨by kernel_rfl, ?_⟩) (by assumption) ?_
    · (intro w' hS; obtain ⟨s0, s1, s2, s3⟩ := hS; go_simp)
    simp only [Act.put, List.setIfInBounds_toArray, List.set_cons_zero, List.set_cons_succ]
    refine wpAnyH_take (i := 16) (oi := ⟨some 54, _, _, _, _, _⟩) (v := .string ((bstr xt).extract 0 un)) rfl (by kernel_rfl) (by kernel_rfl) (by kernel_rfl) (fun _ _ _ h => h) (Or.inl ⟨by kernel_rfl, ?_⟩) (by assumption) ?_
    · (intro w' hS; obtain ⟨s0, s1, s2, s3⟩ := hS; go_simp)
    simp only [Act.put, List.setIfInBounds_toArray, List.set_cons_zero, List.set_cons_succ]
    refine wpAnyH_take (i := 17) (oi := ⟨some 55, _, _, _, _, _⟩) (v := .bool true) rfl (by kernel_rfl) (by kernel_rfl) (by kernel_rfl) (fun _ _ _ h => h) (Or.inl ⟨by kernel_rfl, ?_⟩) (by assumption) ?_
    · (intro w' hS; obtain ⟨s0, s1, s2, s3⟩ := hS; rw [HEQ.out]; go_simp)
    simp only [Act.put, List.setIfInBounds_toArray, List.set_cons_zero, List.set_cons_succ]
    refine wpAnyH_take (i := 18) (oi := ⟨some 56, _, _, _, _, _⟩) (v := .bool true) rfl (by kernel_rfl) (by kernel_rfl) (by kernel_rfl) (fun _ _ _ h => h) (Or.inl ⟨by kernel_rfl, ?_⟩) (by assumption) ?_
    · (intro w' hS; obtain ⟨s0, s1, s2, s3⟩ := hS; go_simp)
    simp only [Act.put, List.setIfInBounds_toArray, List.set_cons_zero, List.set_cons_succ]
    refine wpAnyH_take (i := 19) (oi := ⟨some 57, _, _, _, _, _⟩) (v := .bool true) rfl (by kernel_rfl) (by kernel_rfl) (by kernel_rfl) (fun _ _ _ h => h) (Or.inl ⟨by kernel_rfl, ?_⟩) (by assumption) ?_
    · (intro w' hS; obtain ⟨s0, s1, s2, s3⟩ := hS; go_simp)
    simp only [Act.put, List.setIfInBounds_toArray, List.set_cons_zero, List.set_cons_succ]
    refine wpAnyH_take (i := 20) (oi := ⟨some 58, _, _, _, _, _⟩) (v := .string raw) rfl (by kernel_rfl) (by kernel_rfl) (by kernel_rfl) (fun _ _ _ h => h) (Or.inl ⟨by kernel_rfl, ?_⟩) (by assumption) ?_
    · (intro w' hS; obtain ⟨s0, s1, s2, s3⟩ := hS; go_simp)
    simp only [Act.put, List.setIfInBounds_toArray, List.set_cons_zero, List.set_cons_succ]
    refine wpAnyH_take (i := 21) (oi := ⟨some 59, _, _, _, _, _⟩) (v := .pointer (some ⟨w.heap.size, 0, none⟩)) rfl (by kernel_rfl) (by kernel_rfl) (by kernel_rfl) (fun _ _ _ h => h) (Or.inl ⟨by kernel_rfl, ?_⟩) (by assumption) ?_
    · (intro w' hS; obtain ⟨s0, s1, s2, s3⟩ := hS; go_simp)
    simp only [Act.put, List.setIfInBounds_toArray, List.set_cons_zero, List.set_cons_succ]
    refine wpAnyH_take (i := 22) (oi := ⟨some 60, _, _, _, _, _⟩) (v := .pointer (some ⟨w.heap.size, 3, none⟩)) rfl (by kernel_rfl) (by kernel_rfl) (by kernel_rfl) (fun _ _ _ h => h) (Or.inl ⟨by kernel_rfl, ?_⟩) (by assumption) ?_
    · (intro w' hS; obtain ⟨s0, s1, s2, s3⟩ := hS; go_simp)
    simp only [Act.put, List.setIfInBounds_toArray, List.set_cons_zero, List.set_cons_succ]
    refine wpAnyH_take (i := 23) (oi := ⟨some 61, _, _, _, _, _⟩) (v := .int .i64 un) rfl (by kernel_rfl) (by kernel_rfl) (by kernel_rfl) (fun _ _ _ h => h) (Or.inl ⟨by kernel_rfl, ?_⟩) (by assumption) ?_
    · (intro w' hS; obtain ⟨s0, s1, s2, s3⟩ := hS; go_simp)
    simp only [Act.put, List.setIfInBounds_toArray, List.set_cons_zero, List.set_cons_succ]
    refine wpAnyH_take (i := 24) (oi := ⟨some 62, _, _, _, _, _⟩) (v := .string (raw.extract un raw.size)) rfl (by kernel_rfl) (by kernel_rfl) (by kernel_rfl) (fun _ _ _ h => h) (Or.inl ⟨by kernel_rfl, ?_⟩) (by assumption) ?_
    · (intro w' hS; obtain ⟨s0, s1, s2, s3⟩ := hS; go_simp)
    simp only [Act.put, List.setIfInBounds_toArray, List.set_cons_zero, List.set_cons_succ]
    refine wpAnyH_take (i := 26) (oi := ⟨some 64, _, _, _, _, _⟩) (v := .pointer (some ⟨(w.heap.size + 1), 2, none⟩)) rfl (by kernel_rfl) (by kernel_rfl) (by kernel_rfl) (fun _ _ _ h => h) (Or.inl ⟨by kernel_rfl, ?_⟩) (by assumption) ?_
    · (intro w' hS; obtain ⟨s0, s1, s2, s3⟩ := hS; go_simp)
    simp only [Act.put, List.setIfInBounds_toArray, List.set_cons_zero, List.set_cons_succ]
    refine wpAnyH_take (i := 27) (oi := ⟨some 65, _, _, _, _, _⟩) (v := .string (bstr xt)) rfl (by kernel_rfl) (by kernel_rfl) (by kernel_rfl) (fun _ _ _ h => h) (Or.inl ⟨by kernel_rfl, ?_⟩) (by assumption) ?_
    · (intro w' hS; obtain ⟨s0, s1, s2, s3⟩ := hS; go_simp)
    simp only [Act.put, List.setIfInBounds_toArray, List.set_cons_zero, List.set_cons_succ]
    refine wpAnyH_take (i := 28) (oi := ⟨some 66, _, _, _, _, _⟩) (v := .pointer (some ⟨(w.heap.size + 1), 1, none⟩)) rfl (by kernel_rfl) (by kernel_rfl) (by kernel_rfl) (fun _ _ _ h => h) (Or.inl ⟨by kernel_rfl, ?_⟩) (by assumption) ?_
    · (intro w' hS; obtain ⟨s0, s1, s2, s3⟩ := hS; go_simp)
    simp only [Act.put, List.setIfInBounds_toArray, List.set_cons_zero, List.set_cons_succ]
    refine wpAnyH_take (i := 29) (oi := ⟨some 67, _, _, _, _, _⟩) (v := .int .i64 un) rfl (by kernel_rfl) (by kernel_rfl) (by kernel_rfl) (fun _ _ _ h => h) (Or.inl ⟨by kernel_rfl, ?_⟩) (by assumption) ?_
    · (intro w' hS; obtain ⟨s0, s1, s2, s3⟩ := hS; go_simp)
    simp only [Act.put, List.setIfInBounds_toArray, List.set_cons_zero, List.set_cons_succ]
    refine wpAnyH_take (i := 30) (oi := ⟨some 68, _, _, _, _, _⟩) (v := .string ((bstr xt).extract un (bstr xt).size)) rfl (by kernel_rfl) (by kernel_rfl) (by kernel_rfl) (fun _ _ _ h => h) (Or.inl ⟨by kernel_rfl, ?_⟩) (by assumption) ?_
    · (intro w' hS; obtain ⟨s0, s1, s2, s3⟩ := hS; go_simp)
    simp only [Act.put, List.setIfInBounds_toArray, List.set_cons_zero, List.set_cons_succ]
    refine wpAnyH_ready (rs := [25]) (by kernel_rfl) (by simp) ?_
    refine AllReadyH.cons (o := ⟨some 63, _, _, _, _, _⟩) rfl (fun K hK => ?_) AllReadyH.nil
    go_simp
    go_wp2_with (go_at_call 39; refine (HD.out _ (by omega) (by omega)).mono ?_; rintro e w9 ⟨rfl, hk9⟩)
    refine hK.out _ _ (hHeld.kp hb1 hb2 hk9) (fun hHeld2 => ?_)
    clear hHeld
    try simp only [Act.put, List.setIfInBounds_toArray, List.set_cons_zero, List.set_cons_succ]
    refine wpAnyH_take (i := 31) (oi := ⟨some 69, _, _, _, _, _⟩) (v := .bool true) rfl (by kernel_rfl) (by kernel_rfl) (by kernel_rfl) (fun _ _ _ h => h) (Or.inl ⟨by kernel_rfl, ?_⟩) (by assumption) ?_
    · (intro w' hS; obtain ⟨s0, s1, s2, s3⟩ := hS; rw [HXD.out]; go_simp)
    simp only [Act.put, List.setIfInBounds_toArray, List.set_cons_zero, List.set_cons_succ]
    refine wpAnyH_take (i := 32) (oi := ⟨some 70, _, _, _, _, _⟩) (v := .bool true) rfl (by kernel_rfl) (by kernel_rfl) (by kernel_rfl) (fun _ _ _ h => h) (Or.inl ⟨by kernel_rfl, ?_⟩) (by assumption) ?_
    · (intro w' hS; obtain ⟨s0, s1, s2, s3⟩ := hS; go_simp)
    simp only [Act.put, List.setIfInBounds_toArray, List.set_cons_zero, List.set_cons_succ]
    refine wpAnyH_take (i := 33) (oi := ⟨some 6, _, _, _, _, _⟩) (v := .bool true) rfl (by kernel_rfl) (by kernel_rfl) (by kernel_rfl) (fun _ _ _ h => h) (Or.inl ⟨by kernel_rfl, ?_⟩) (by assumption) ?_
    · (intro w' hS; obtain ⟨s0, s1, s2, s3⟩ := hS; go_simp)
    simp only [Act.put, List.setIfInBounds_toArray, List.set_cons_zero, List.set_cons_succ]
    refine wpAnyH_done (by kernel_rfl) ?_ _
    have HH := Lib.hid hHeld2.1
    clear hHeld2 d0 d1 d2 d3 d4 d5 d6 x0 x1 x2 x3 hk9
    go_wp2
    go_ret
    exact ⟨rfl, HK.out.trans HH.out⟩
/-- A text that is read as items, by the program's comparison. -/
theorem holds_all (K : Nat) (text : List UInt8) (spc : Bool) (xs : List It) (h : TextOk K text spc xs) (hK : text.length < K) (hs : text.length ≤ 1099511627776) (B : Nat) (v : Value) (w : World) (hx : w.ownsRow B 54 4 v xs.length (xs.flatMap icell)) :
    Calls Tryz.prog 10 #[.string (bstr text), v, .bool spc] w fun e w' => e = .returned (.bool true) ∧ Kp (fun _ => False) w w' := by
  obtain ⟨ts, h1, h2, h3⟩ := h.rd
  have e : (bstr text).data.toList = text := by simp [bstr]
  have e2 : lft (bstr text) 0 = its text := by unfold lft; rw [e]; rfl
  refine holds_any (bstr text) K w (by rw [bstr_size]; exact hs) (by rw [bstr_size]; exact hK) ts (by rw [bstr_size, e2]; exact h1) (by rw [e]; exact h2) (Pq text) ?_ spc xs h3 B v hx
  intro r x w hp
  obtain ⟨p1, p2, p3⟩ := hp
  by_cases p4 : x.k = 26
  · exact is_dim (bstr text) r x w (by rw [e]; exact p1) p2 (by rw [bstr_size]; exact p3) p4 (by rw [bstr_size]; exact hs)
  · exact is_any (bstr text) r x w (by rw [e]; exact p1) p2 (by rw [bstr_size]; exact p3) p4
end Go.Proofs.YtkaejhdncohgpaaGreatFmt
