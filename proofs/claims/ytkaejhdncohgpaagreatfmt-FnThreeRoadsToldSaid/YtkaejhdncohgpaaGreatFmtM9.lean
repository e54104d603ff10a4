/- The laws' reader of a text: its tokens without whitespace; The laws' comparison of a token that was read with an item (no dimension); The law's question whether a text is read as some items. -/
import Derived.Test.YtkaejhdncohgpaaGreatFmtL10
import Derived.Test.YtkaejhdncohgpaaGreatFmtLA
import Derived.Test.YtkaejhdncohgpaaGreatFmtM6
import Derived.Deep.RegionHeld3
/- The laws' reader of a text: its tokens without whitespace. Condition: the text has at most 2^40 bytes, and no comment or address. -/
namespace Go.Proofs.YtkaejhdncohgpaaGreatFmt
set_option linter.all false
open Go.RowKit
set_option maxRecDepth 100000
set_option maxHeartbeats 1000000

theorem own_mono {w : World} {B B' e n z : Nat} {v : Value} {xs : List Value} (h : w.ownsRow B e z v n xs) (hB : B' ≤ B) : w.ownsRow B' e z v n xs := by
  obtain ⟨h1, h2⟩ := h
  refine ⟨h1, ?_⟩
  rcases h2 with h2 | ⟨g, cap, cur, rfl, hb, r⟩
  · exact .inl h2
  · exact .inr ⟨g, cap, cur, rfl, Nat.le_trans hB hb, r⟩
theorem own_elem {w : World} {B e z : Nat} {v : Value} {α : Type} {f : α → List Value} {dn r : List α} {t : α} {n : Nat} (h : w.ownsRow B e z v n ((dn ++ t :: r).flatMap f)) (hf : ∀ t, (f t).length = z) (hz : 0 < z) :
    ∃ g cap, v = .slice (some ⟨g, 0, none⟩) n cap ∧ B ≤ g ∧ g < w.heap.size ∧ ∀ j u, (f t)[j]? = some u → w.cell? ⟨g, dn.length * z + j, none⟩ = some u := by
  have hl : ∀ l : List α, (l.flatMap f).length = l.length * z := by
    intro l
    induction l with
    | nil => simp
    | cons a l ih => simp [ih, hf]; rw [Nat.add_mul]; omega
  have h2 := h.2
  rcases h2 with ⟨rfl, hx⟩ | ⟨g, cap, cur, rfl, hB, hg, r'⟩
  · have := h.1
    rw [hl, hx, Nat.zero_mul] at this
    have h3 := Nat.mul_pos (show 0 < (dn ++ t :: r).length by simp; omega) hz
    omega
  · refine ⟨g, cap, rfl, hB, (Array.getElem?_eq_some_iff.1 hg).1, fun j u hj => ?_⟩
    have hc := h.cells (g := g) rfl (dn.length * z + j) u (by
      rw [List.flatMap_append, List.flatMap_cons, List.getElem?_append_right (by rw [hl]; omega), hl, Nat.add_sub_cancel_left, List.getElem?_append_left (by
        have := (List.getElem?_eq_some_iff.1 hj).1; exact this)]
      exact hj)
    have e : (⟨g, 0, none⟩ : Addr).add (dn.length * z + j) = ⟨g, dn.length * z + j, none⟩ := by
      cases hq : dn.length * z + j <;> simp [Addr.add]
    rwa [e] at hc

def rcell (x : Tk × Bool) : List Value := x.1.cells ++ [.bool x.2]
theorem info51 : (Tryz.prog.info? 51).map (fun i => (i.zero, i.size, i.bytes)) = some (some (.agg #[.int .i64 0, .int .i64 0, .int .i64 0, .int .i64 0, .bool false, .string ⟨#[]⟩, .bool false]), 7, 64) := by kernel_rfl

/-- The loop of reads. -/
structure RdI (w1 : World) (vt : Value) (ts : List Tk) (a sp i : Value) (wr : World) (dn rs : List Tk) (b : Bool) (acc : List (Tk × Bool)) : Prop where
  eq : dn ++ rs = ts
  sp : sp = .bool b
  i : i = .int .i64 dn.length
  kp : Kp (fun _ => False) w1 wr
  own : wr.ownsRow w1.heap.size 51 7 a acc.length (acc.flatMap rcell)
  ac : acc ++ rdL b rs = rdL false ts
  ln : acc.length ≤ dn.length

theorem reads_any (s : ByteArray) (K : Nat) (w : World) (hs : s.size ≤ 1099511627776) (hK : s.size < K) (ts : List Tk) (ht : TokR K s.size (lft s 0) false ts false) (hp : plB s.data.toList = true) :
    Calls Tryz.prog 24 #[.string s] w fun e w' => ∃ v, e = .returned (.tuple #[v, .bool true]) ∧ w'.ownsRow w.heap.size 51 7 v (rdL false ts).length ((rdL false ts).flatMap rcell) ∧ Kp (fun _ => False) w w' := by
  have HTL : Hid (ts.length ≤ s.size) := Lib.hid (by have h1 := TokR_len (by omega) ht; have h2 := lft_len s 0 (by omega); omega)
  have HT := Lib.hid (Tokens_any s K w hs hK ts false ht)
  have hpl := IsPlain_any s w (by omega)
  rw [hp] at hpl
  have HP := Lib.hid hpl
  have hsm : ts.length ≤ 1099511627776 := Nat.le_trans HTL.out hs
  clear ht hp hpl
  go_enter Tryz.func24, Tryz.ntmps24
  go_wp2_with fail
  refine HP.out.mono ?_
  rintro e w' ⟨rfl, rfl⟩
  go_wp2_with fail
  refine HT.out.mono ?_
  rintro e w1 ⟨vt, rfl, hot, hk1⟩
  obtain ⟨At, nt, ct, rfl⟩ := own_slice hot
  have hn : nt = ts.length := by
    rcases hot.2 with ⟨h1, h2⟩ | ⟨g, cap, cur, h1, _⟩
    · cases h1
      omega
    · cases h1; rfl
  subst hn
  have HOT := Lib.hid hot
  have HK1 := Lib.hid hk1
  have h0 : RdI w1 (.slice At ts.length ct) ts (.slice none 0 0) (.bool false) (.int .i64 0) w1 [] ts false [] := ⟨rfl, rfl, rfl, Kp.refl _ _, World.ownsRow_nil _ _ _ _, rfl, Nat.le_refl _⟩
  have H0 := Lib.hid h0
  clear h0 hot hk1
  go_wp2
  go_loopw [7, 8, 22] (fun a sp i wr => ∃ dn rs b acc, RdI w1 (.slice At ts.length ct) ts a sp i wr dn rs b acc) (fun _ _ i _ => ts.length - (intOf i).toNat)
  case atStart => exact ⟨_, _, _, _, H0.out⟩
  case round =>
    obtain ⟨dn, rs, b, acc, hI⟩ := hrel
    have q1 := hI.sp
    have q2 := hI.i
    subst q1 q2
    match rs, hI with
    | [], hI =>
      obtain rfl : dn = ts := by have := hI.eq; simpa using this
      have hac := hI.ac
      rw [rdL, List.append_nil] at hac
      have HAC := Lib.hid hac
      have HI := Lib.hid hI
      clear hac hI
      go_wp2
      go_ret2
      refine ⟨_, rfl, ?_, HK1.out.trans HI.out.kp⟩
      rw [← HAC.out]
      exact own_mono HI.out.own HK1.out.size
    | t :: r, hI =>
      have hot := own_kp HOT.out hI.kp (fun _ _ f => f)
      unfold tcells at hot
      rw [← hI.eq] at hot
      obtain ⟨g, cap, hv, hB, hg, hc⟩ := own_elem hot (fun t => rfl) (by decide)
      have hlen : dn.length + (r.length + 1) = ts.length := by rw [← hI.eq]; simp
      cases hv
      have hi : dn.length < ts.length := by omega
      have c0 := hc 0 _ rfl
      have c1 := hc 1 _ rfl
      have c2 := hc 2 _ rfl
      have c3 := hc 3 _ rfl
      have c4 := hc 4 _ rfl
      have c5 := hc 5 _ rfl
      simp only [Nat.add_zero] at c0
      have HI := Lib.hid hI
      have HLEN := Lib.hid hlen
      clear hI hc hot hlen
      have hkA : Kp (fun _ => False) wr (wr.alloc (.cells #[.int .i64 t.k, .int .i64 t.st, .int .i64 t.en, .int .i64 t.un, .bool t.id, .string (bstr t.tx)] 49)) := (Kp.refl _ wr).alloc _
      have hbl := heap_alloc_new wr (.cells #[.int .i64 t.k, .int .i64 t.st, .int .i64 t.en, .int .i64 t.un, .bool t.id, .string (bstr t.tx)] 49)
      go_upto_region 9 with fail
      generalize wr.alloc (.cells #[.int .i64 t.k, .int .i64 t.st, .int .i64 t.en, .int .i64 t.un, .bool t.id, .string (bstr t.tx)] 49) = w2 at *
      obtain ⟨⟨d0, d1, d2, d3, d4, d5⟩, -⟩ := six hbl
      have hbase : w1.heap.size ≤ w2.heap.size := Nat.le_trans HI.out.kp.size hkA.size
      have hown := own_kp HI.out.own hkA (fun _ _ f => f)
      have HKA := Lib.hid hkA
      have HBL := Lib.hid hbl
      clear hkA hbl c0 c1 c2 c3 c4 c5
      obtain ⟨i0, hi', hz0, hz1, hz2⟩ := info_parts info51
      by_cases hk : t.k = 38
      · have b1 : (t.k != 38) = false := by simpa using hk
        have b2 : (t.k == 38) = true := by simpa using hk
        have HKK := Lib.hid hk
        clear hk
        go_wp2
        refine ⟨⟨dn ++ [t], r, true, acc, by rw [← HI.out.eq]; simp, rfl, by simp, HI.out.kp.trans HKA.out, hown, ?_, ?_⟩, ?_⟩
        · rw [← HI.out.ac, rdL, if_pos HKK.out]
        · have := HI.out.ln; simp; omega
        · simp [intOf]; omega
      · have b1 : (t.k != 38) = true := by simpa using hk
        have b2 : (t.k == 38) = false := by simpa using hk
        have HKK := Lib.hid hk
        have hln : acc.length + 1 ≤ s.size := by have := HI.out.ln; have := HTL.out; omega
        have HNW := Lib.hid (World.news_of_block (heap_alloc_new w2 (.cells #[.int .i64 t.k, .int .i64 t.st, .int .i64 t.en, .int .i64 t.un, .bool t.id, .string (bstr t.tx), .bool b] 51)))
        clear hk
        go_wp2_with (at_builtin; refine wpList_append_own _ rfl (.tmp 29) (.tmp 33) 45 rfl w1.heap.size 51 i0 _ 7 64 Tryz.underlying45 hi' hz0 hz1 hz2 rfl (by decide) _ acc.length (acc.flatMap rcell) rfl (World.ownsRow.alloc hown _) ⟨w2.heap.size, 0, none⟩ 1 1 (rcell (t, b)) rfl rfl HNW.out ?c1 ?c3 ?c4 ?c5 ?_)
        case c1 => intro x hx; simp [rcell, Tk.cells] at hx; rcases hx with rfl | rfl | rfl | rfl | rfl | rfl | rfl <;> rfl
        case c3 => unfold maxLen; omega
        case c4 => omega
        case c5 => exact Nat.le_trans hbase (by simp)
        intro v' w5 hown' hgrow _
        have hgb : ∀ k, u7.ownBlock = some k → w1.heap.size ≤ k := fun k hk => (own_lt hown k hk).1
        have HK5 : Hid (Kp (fun _ => False) w1 w5) := Lib.hid (((HI.out.kp.trans HKA.out).alloc _).grown hgrow (fun k hk => .inr (hgb k hk)))
        have e0 : w5.cell? ⟨wr.heap.size, 0, none⟩ = some (.int .i64 t.k) := by
          have hlt : wr.heap.size < w2.heap.size := (Array.getElem?_eq_some_iff.1 HBL.out).1
          rw [World.cell?_of_block (w := w2.alloc (.cells #[.int .i64 t.k, .int .i64 t.st, .int .i64 t.en, .int .i64 t.un, .bool t.id, .string (bstr t.tx), .bool b] 51)) (hgrow.block wr.heap.size (by simp; omega) (fun e => by have := (own_lt HI.out.own _ e.symm).2.1; omega))]
          rw [World.cell?_of_block (w := w2) (Below.heap_alloc _ _ _ hlt)]
          exact d0
        have HO5 := Lib.hid hown'
        clear hown' hgrow hgb d0 d1 d2 d3 d4 d5
        go_wp2
        refine ⟨⟨dn ++ [t], r, false, acc ++ [(t, b)], by rw [← HI.out.eq]; simp, rfl, by simp, HK5.out, ?_, ?_, ?_⟩, ?_⟩
        · have := HO5.out
          rw [List.flatMap_append, List.length_append]
          simpa using this
        · rw [← HI.out.ac, rdL, if_neg HKK.out]; simp
        · have := HI.out.ln; simp; omega
        · simp [intOf]; omega
end Go.Proofs.YtkaejhdncohgpaaGreatFmt

/- The laws' comparison of a token that was read with an item (no dimension). Condition: the text has at most 2^47 bytes. -/
namespace Go.Proofs.YtkaejhdncohgpaaGreatFmt
set_option linter.all false
open Go.RowKit
set_option maxRecDepth 100000
set_option maxHeartbeats 1000000

def It.val (x : It) : Value := .agg #[.int .i64 x.k, .int .i64 x.un, .string (bstr x.tx), .int .i64 x.sp]
def rdV (x : Tk × Bool) : Value := .agg #[.int .i64 x.1.k, .int .i64 x.1.st, .int .i64 x.1.en, .int .i64 x.1.un, .bool x.1.id, .string (bstr x.1.tx), .bool x.2]
theorem ext_bstr (text : ByteArray) (st en : Nat) (l : List UInt8) (h : (text.data.toList.drop st).take (en - st) = l) : text.extract st en = bstr l := by
  subst h
  unfold bstr
  apply ByteArray.ext
  simp [ByteArray.data_extract, List.extract_eq_take_drop, ← Array.toList_inj]
theorem is_any (text : ByteArray) (r : Tk × Bool) (x : It) (w : World) (h : IsR text.data.toList r.1 x) (h1 : r.1.st ≤ r.1.en) (h2 : r.1.en ≤ text.size) (hnd : x.k ≠ 26) :
    Calls Tryz.prog 25 #[.string text, rdV r, x.val] w fun e w' => e = .returned (.bool true) ∧ Kp (fun _ => False) w w' := by
  obtain ⟨⟨k, st, en, un, id, tx⟩, b⟩ := r
  obtain ⟨xk, xu, xt, xs⟩ := x
  unfold rdV It.val
  have hK : Kp (fun _ => False) w ((w.alloc (.cells #[.int .i64 k, .int .i64 st, .int .i64 en, .int .i64 un, .bool id, .string (bstr tx), .bool b] 51)).alloc (.cells #[.int .i64 xk, .int .i64 xu, .string (bstr xt), .int .i64 xs] 54)) := ((Kp.refl _ w).alloc _).alloc _
  simp only at h1 h2 hnd
  cases h with
  | text hk hx e =>
    simp only at hk hx e
    subst hk e
    have HK := Lib.hid hK
    clear hK
    rcases hx with rfl | rfl | rfl | rfl | rfl
    all_goals
      go_enter Tryz.func25, Tryz.ntmps25
      go_wp2
      go_ret
      exact ⟨rfl, HK.out⟩
  | close hk hx =>
    simp only at hk hx
    subst hk
    have HK := Lib.hid hK
    clear hK
    rcases hx with rfl | rfl | rfl
    all_goals
      go_enter Tryz.func25, Tryz.ntmps25
      go_wp2
      go_ret
      exact ⟨rfl, HK.out⟩
  | raw hk h3 h4 h5 e =>
    simp only at hk h3 h4 h5 e
    subst hk
    have hX := ext_bstr text st en xt e
    have b1 : (k == 29) = false := by simp; omega
    have b2 : (k == 27) = false := by simp; omega
    have b3 : (k == 1) = false := by simp; omega
    have b4 : (k == 28) = false := by simp; omega
    have b5 : (k == 36) = false := by simp; omega
    have b6 : (k == 26) = false := by simp; omega
    have b7 : (k == 8) = false := by simp; omega
    have b8 : (k == 7) = false := by simp; omega
    have b9 : (k == 6) = false := by simp; omega
    have HK := Lib.hid hK
    clear hK h3 h4 h5 hnd e
    go_enter Tryz.func25, Tryz.ntmps25
    go_wp2
    go_ret
    exact ⟨rfl, HK.out⟩
  | dim hk hx => exact absurd hx hnd
end Go.Proofs.YtkaejhdncohgpaaGreatFmt

/- The law's question whether a text is read as some items. Condition: the text has at most 2^40 bytes, and no comment or address. -/
namespace Go.Proofs.YtkaejhdncohgpaaGreatFmt
set_option linter.all false
open Go.RowKit
set_option maxRecDepth 100000
set_option maxHeartbeats 20000000

def icell (x : It) : List Value := [.int .i64 x.k, .int .i64 x.un, .string (bstr x.tx), .int .i64 x.sp]
/-- Tokens that were read are items, in order. -/
inductive MtL (P : Tk × Bool → It → Prop) (spc : Bool) : List (Tk × Bool) → List It → Prop
  | nil : MtL P spc [] []
  | cons (r : Tk × Bool) (x : It) (rs : List (Tk × Bool)) (xs : List It) (h : P r x) (hs : spc = true → x.sp < 0 ∨ 0 ≤ x.sp ∧ r.2 = decide (x.sp = 1)) (hr : MtL P spc rs xs) : MtL P spc (r :: rs) (x :: xs)
theorem MtL.len {P : Tk × Bool → It → Prop} {spc : Bool} {rs : List (Tk × Bool)} {xs : List It} (h : MtL P spc rs xs) : rs.length = xs.length := by
  induction h with
  | nil => rfl
  | cons r x rs xs h hs hr ih => simp [ih]
/-- What the law's comparison says. -/
def IsC (text : ByteArray) (P : Tk × Bool → It → Prop) : Prop := ∀ (r : Tk × Bool) (x : It) (w : World), P r x → Calls Tryz.prog 25 #[.string text, rdV r, x.val] w fun e w' => e = .returned (.bool true) ∧ Kp (fun _ => False) w w'
theorem cells4 {w : World} {B T : Nat} {x0 x1 x2 x3 : Value} (h : w.heap[B]? = some (.cells #[x0, x1, x2, x3] T)) : w.cell? ⟨B, 0, none⟩ = some x0 ∧ w.cell? ⟨B, 1, none⟩ = some x1 ∧ w.cell? ⟨B, 2, none⟩ = some x2 ∧ w.cell? ⟨B, 3, none⟩ = some x3 := by
  simp [World.cell?, h]
theorem cellsR {w : World} {B T : Nat} {x0 x1 x2 x3 x4 x5 x6 : Value} (h : w.heap[B]? = some (.cells #[x0, x1, x2, x3, x4, x5, x6] T)) : w.cell? ⟨B, 0, none⟩ = some x0 ∧ w.cell? ⟨B, 1, none⟩ = some x1 ∧ w.cell? ⟨B, 2, none⟩ = some x2 ∧ w.cell? ⟨B, 3, none⟩ = some x3 ∧ w.cell? ⟨B, 4, none⟩ = some x4 ∧ w.cell? ⟨B, 5, none⟩ = some x5 ∧ w.cell? ⟨B, 6, none⟩ = some x6 := by
  simp [World.cell?, h]
theorem own_nil {w : World} {B e z n : Nat} {v : Value} {α : Type} {f : α → List Value} {l : List α} (h : w.ownsRow B e z v n (l.flatMap f)) (hn : l.length = n) : ∃ A c, v = .slice A n c := by
  subst hn
  rcases h.2 with ⟨rfl, h2⟩ | ⟨g, cap, cur, h1, _⟩
  · exact ⟨_, _, by rw [h2]⟩
  · exact ⟨_, _, h1⟩

theorem keepS {w2 wx w9 : World} (hk9 : Kp (fun _ => False) wx w9) (hk : Kp (fun _ => False) w2 wx) {b o : Nat} {u : Value} (hb : b < w2.heap.size) (h : wx.cell? ⟨b, o, none⟩ = some u) : w9.cell? ⟨b, o, none⟩ = some u := by
  rw [World.cell?_of_block (w := wx) (hk9.block b (Nat.lt_of_lt_of_le hb hk.size) (fun f => f))]; exact h
/-- What the comparison's statement reads. -/
def HS (w2 : World) (b g2 n : Nat) (t : Tk × Bool) (x : It) (w' : World) : Prop := Kp (fun _ => False) w2 w' ∧ w'.cell? ⟨b, 0, none⟩ = some (.int .i64 t.1.k) ∧ w'.cell? ⟨b, 1, none⟩ = some (.int .i64 t.1.st) ∧ w'.cell? ⟨b, 2, none⟩ = some (.int .i64 t.1.en) ∧ w'.cell? ⟨b, 3, none⟩ = some (.int .i64 t.1.un) ∧ w'.cell? ⟨b, 4, none⟩ = some (.bool t.1.id) ∧ w'.cell? ⟨b, 5, none⟩ = some (.string (bstr t.1.tx)) ∧ w'.cell? ⟨b, 6, none⟩ = some (.bool t.2) ∧
  w'.cell? ⟨g2, n * 4, none⟩ = some (.int .i64 x.k) ∧ w'.cell? ⟨g2, n * 4 + 1, none⟩ = some (.int .i64 x.un) ∧ w'.cell? ⟨g2, n * 4 + 2, none⟩ = some (.string (bstr x.tx)) ∧ w'.cell? ⟨g2, n * 4 + 3, none⟩ = some (.int .i64 x.sp)
theorem HS.kp {w2 : World} {b g2 n : Nat} {t : Tk × Bool} {x : It} {wx w9 : World} (h : HS w2 b g2 n t x wx) (hb : b < w2.heap.size) (hg : g2 < w2.heap.size) (hk9 : Kp (fun _ => False) wx w9) : HS w2 b g2 n t x w9 := by
  obtain ⟨s0, s1, s2, s3, s4, s5, s6, s7, s8, s9, sa, sb⟩ := h
  exact ⟨s0.trans hk9, keepS hk9 s0 hb s1, keepS hk9 s0 hb s2, keepS hk9 s0 hb s3, keepS hk9 s0 hb s4, keepS hk9 s0 hb s5, keepS hk9 s0 hb s6, keepS hk9 s0 hb s7, keepS hk9 s0 hg s8, keepS hk9 s0 hg s9, keepS hk9 s0 hg sa, keepS hk9 s0 hg sb⟩
/-- The loop of holds. -/
structure HdI (P : Tk × Bool → It → Prop) (spc : Bool) (w1 : World) (rs0 : List (Tk × Bool)) (xs0 : List It) (i : Value) (wr : World) (dn rs : List (Tk × Bool)) (dx xs : List It) : Prop where
  eq : dn ++ rs = rs0
  ex : dx ++ xs = xs0
  i : i = .int .i64 dn.length
  ln : dn.length = dx.length
  kp : Kp (fun _ => False) w1 wr
  mt : MtL P spc rs xs

theorem holds_any (text : ByteArray) (K : Nat) (w : World) (hs : text.size ≤ 1099511627776) (hK : text.size < K) (ts : List Tk) (ht : TokR K text.size (lft text 0) false ts false) (hp : plB text.data.toList = true) (P : Tk × Bool → It → Prop) (hIs : IsC text P) (spc : Bool) (xs : List It) (hm : MtL P spc (rdL false ts) xs) (B : Nat) (v : Value) (hx : w.ownsRow B 54 4 v xs.length (xs.flatMap icell)) :
    Calls Tryz.prog 10 #[.string text, v, .bool spc] w fun e w' => e = .returned (.bool true) ∧ Kp (fun _ => False) w w' := by
  have HR := Lib.hid (reads_any text K w hs hK ts ht hp)
  have HTL : (rdL false ts).length ≤ 1099511627776 := by
    have h1 := TokR_len (by omega) ht
    have h2 := lft_len text 0 (by omega)
    have h3 : ∀ (b : Bool) (l : List Tk), (rdL b l).length ≤ l.length := by
      intro b l
      induction l generalizing b with
      | nil => simp [rdL]
      | cons t r ih => rw [rdL]; split
                       · have := ih true; simp; omega
                       · have := ih false; simp; omega
    have := h3 false ts
    omega
  have hlen := hm.len
  obtain ⟨Ax, cx, rfl⟩ := own_nil hx rfl
  have HIS := Lib.hid hIs
  have HM := Lib.hid hm
  have HX := Lib.hid hx
  clear ht hp hIs hm hx
  generalize rdL false ts = rs0 at *
  go_enter Tryz.func10, Tryz.ntmps10
  go_wp2_with fail
  refine HR.out.mono ?_
  rintro e w1 ⟨vr, rfl, hor, hk1⟩
  obtain ⟨Ar, cr, rfl⟩ := own_nil hor rfl
  have HOR := Lib.hid hor
  have HK1 := Lib.hid hk1
  have h0 : HdI P spc w1 rs0 xs (.int .i64 0) w1 [] rs0 [] xs := ⟨rfl, rfl, rfl, rfl, Kp.refl _ _, HM.out⟩
  have H0 := Lib.hid h0
  clear h0 hor hk1
  go_wp2
  go_loopw [27] (fun i wr => ∃ dn rs dx rx, HdI P spc w1 rs0 xs i wr dn rs dx rx) (fun i _ => rs0.length - (intOf i).toNat)
  case atStart => exact ⟨_, _, _, _, H0.out⟩
  case round =>
    obtain ⟨dn, rs, dx, rx, hI⟩ := hrel
    have q2 := hI.i
    subst q2
    match rs, rx, hI.mt, hI with
    | [], [], _, hI =>
      obtain rfl : dn = rs0 := by have := hI.eq; simpa using this
      have HI := Lib.hid hI
      clear hI
      go_wp2
      go_ret
      exact ⟨rfl, HK1.out.trans HI.out.kp⟩
    | t :: r, x :: rx, .cons _ _ _ _ hP hsp hmt, hI =>
      have hor := own_kp HOR.out hI.kp (fun _ _ f => f)
      rw [← hI.eq] at hor
      obtain ⟨g, cap, hv, hB, hg, hc⟩ := own_elem hor (fun t => rfl) (by decide)
      have hox := own_kp HX.out (HK1.out.trans hI.kp) (fun _ _ f => f)
      rw [← hI.ex] at hox
      obtain ⟨g2, cap2, hv2, hB2, hg2, hc2⟩ := own_elem hox (fun t => rfl) (by decide)
      have hl1 : dn.length + (r.length + 1) = rs0.length := by rw [← hI.eq]; simp
      have hl2 : dx.length + (rx.length + 1) = xs.length := by rw [← hI.ex]; simp
      cases hv
      cases hv2
      have hi : dn.length < rs0.length := by omega
      have hi2 : dn.length < xs.length := by omega
      have c0 := hc 0 _ rfl
      have c1 := hc 1 _ rfl
      have c2 := hc 2 _ rfl
      have c3 := hc 3 _ rfl
      have c4 := hc 4 _ rfl
      have c5 := hc 5 _ rfl
      have c6 := hc 6 _ rfl
      simp only [Nat.add_zero] at c0
      rw [← hI.ln] at hc2
      have HC2 : Hid (wr.cell? ⟨g2, dn.length * 4, none⟩ = some (.int .i64 x.k) ∧ wr.cell? ⟨g2, dn.length * 4 + 1, none⟩ = some (.int .i64 x.un) ∧ wr.cell? ⟨g2, dn.length * 4 + 2, none⟩ = some (.string (bstr x.tx)) ∧ wr.cell? ⟨g2, dn.length * 4 + 3, none⟩ = some (.int .i64 x.sp)) := Lib.hid ⟨hc2 0 _ rfl, hc2 1 _ rfl, hc2 2 _ rfl, hc2 3 _ rfl⟩
      have HI := Lib.hid hI
      have HP := Lib.hid hP
      have HSP := Lib.hid hsp
      have HMT := Lib.hid hmt
      clear hI hc hc2 hor hox hP hsp hmt
      have hkA : Kp (fun _ => False) wr (wr.alloc (.cells #[.int .i64 t.1.k, .int .i64 t.1.st, .int .i64 t.1.en, .int .i64 t.1.un, .bool t.1.id, .string (bstr t.1.tx), .bool t.2] 51)) := (Kp.refl _ wr).alloc _
      have hbl := heap_alloc_new wr (.cells #[.int .i64 t.1.k, .int .i64 t.1.st, .int .i64 t.1.en, .int .i64 t.1.un, .bool t.1.id, .string (bstr t.1.tx), .bool t.2] 51)
      go_upto_region 7 with fail
      generalize wr.alloc (.cells #[.int .i64 t.1.k, .int .i64 t.1.st, .int .i64 t.1.en, .int .i64 t.1.un, .bool t.1.id, .string (bstr t.1.tx), .bool t.2] 51) = w2 at *
      have hk2 : Kp (fun _ => False) w1 w2 := HI.out.kp.trans hkA
      have HK2 := Lib.hid hk2
      have hblt : wr.heap.size < w2.heap.size := (Array.getElem?_eq_some_iff.1 hbl).1
      obtain ⟨d0, d1, d2, d3, d4, d5, d6⟩ := cellsR hbl
      have hfar : ∀ o u, wr.cell? ⟨g2, o, none⟩ = some u → w2.cell? ⟨g2, o, none⟩ = some u := fun o u h => by rw [World.cell?_of_block (w := wr) (hkA.block g2 hg2 (fun f => f))]; exact h
      have x0 := hfar _ _ HC2.out.1
      have x1 := hfar _ _ HC2.out.2.1
      have x2 := hfar _ _ HC2.out.2.2.1
      have x3 := hfar _ _ HC2.out.2.2.2
      have hg2' : g2 < w2.heap.size := by omega
      clear hfar c0 c1 c2 c3 c4 c5 c6 hkA hbl hk2
      cases spc
      · refine wp_region_held_drew (S := HS w2 wr.heap.size g2 dn.length t x) (by kernel_rfl) ⟨(Kp.refl _ w2).drew, d0, d1, d2, d3, d4, d5, d6, x0, x1, x2, x3⟩ (fun hHeld => ?_)
        refine wpAnyH_take (i := 0) (oi := ⟨some 32, _, _, _, _, _⟩) (v := .string text) rfl (by kernel_rfl) (by kernel_rfl) (by kernel_rfl) (fun _ _ _ h => h) (Or.inl ⟨by kernel_rfl, ?_⟩) (by assumption) ?_
        · (intro w' hS; go_simp)
        simp only [Act.put, List.setIfInBounds_toArray, List.set_cons_zero, List.set_cons_succ]
        refine wpAnyH_take (i := 1) (oi := ⟨some 33, _, _, _, _, _⟩) (v := rdV t) rfl (by kernel_rfl) (by kernel_rfl) (by kernel_rfl) (fun _ _ _ h => h) (Or.inl ⟨by kernel_rfl, ?_⟩) (by assumption) ?_
        · (intro w' hS; obtain ⟨s0, s1, s2, s3, s4, s5, s6, s7, s8, s9, sa, sb⟩ := hS; unfold rdV; go_simp)
        simp only [Act.put, List.setIfInBounds_toArray, List.set_cons_zero, List.set_cons_succ]
        refine wpAnyH_take (i := 2) (oi := ⟨some 34, _, _, _, _, _⟩) (v := .slice (some ⟨g2, 0, none⟩) xs.length cx) rfl (by kernel_rfl) (by kernel_rfl) (by kernel_rfl) (fun _ _ _ h => h) (Or.inl ⟨by kernel_rfl, ?_⟩) (by assumption) ?_
        · (intro w' hS; go_simp)
        simp only [Act.put, List.setIfInBounds_toArray, List.set_cons_zero, List.set_cons_succ]
        refine wpAnyH_take (i := 3) (oi := ⟨some 35, _, _, _, _, _⟩) (v := .int .i64 (dn.length : Nat)) rfl (by kernel_rfl) (by kernel_rfl) (by kernel_rfl) (fun _ _ _ h => h) (Or.inl ⟨by kernel_rfl, ?_⟩) (by assumption) ?_
        · (intro w' hS; go_simp)
        simp only [Act.put, List.setIfInBounds_toArray, List.set_cons_zero, List.set_cons_succ]
        refine wpAnyH_take (i := 4) (oi := ⟨some 36, _, _, _, _, _⟩) (v := .pointer (some ⟨g2, dn.length * 4, none⟩)) rfl (by kernel_rfl) (by kernel_rfl) (by kernel_rfl) (fun _ _ _ h => h) (Or.inl ⟨by kernel_rfl, ?_⟩) (by assumption) ?_
        · (intro w' hS; go_simp)
        simp only [Act.put, List.setIfInBounds_toArray, List.set_cons_zero, List.set_cons_succ]
        refine wpAnyH_take (i := 5) (oi := ⟨some 37, _, _, _, _, _⟩) (v := x.val) rfl (by kernel_rfl) (by kernel_rfl) (by kernel_rfl) (fun _ _ _ h => h) (Or.inl ⟨by kernel_rfl, ?_⟩) (by assumption) ?_
        · (intro w' hS; obtain ⟨s0, s1, s2, s3, s4, s5, s6, s7, s8, s9, sa, sb⟩ := hS; unfold It.val; go_simp)
        simp only [Act.put, List.setIfInBounds_toArray, List.set_cons_zero, List.set_cons_succ]
        refine wpAnyH_ready (rs := [6]) (by kernel_rfl) (by simp) ?_
        refine AllReadyH.cons (o := ⟨some 38, _, _, _, _, _⟩) rfl (fun K hK => ?_) AllReadyH.nil
        go_simp
        go_wp2_with (go_at_call 25; refine (HIS.out t x _ HP.out).mono ?_; rintro e w9 ⟨rfl, hk9⟩)
        refine hK.out _ _ (hHeld.kp hblt hg2' hk9) (fun hHeld2 => ?_)
        clear hHeld
        try simp only [Act.put, List.setIfInBounds_toArray, List.set_cons_zero, List.set_cons_succ]
        refine wpAnyH_take (i := 7) (oi := ⟨some 39, _, _, _, _, _⟩) (v := .bool false) rfl (by kernel_rfl) (by kernel_rfl) (by kernel_rfl) (fun _ _ _ h => h) (Or.inl ⟨by kernel_rfl, ?_⟩) (by assumption) ?_
        · (intro w' hS; go_simp)
        simp only [Act.put, List.setIfInBounds_toArray, List.set_cons_zero, List.set_cons_succ]
        refine wpAnyH_take (i := 8) (oi := ⟨some 40, _, _, _, _, _⟩) (v := .bool false) rfl (by kernel_rfl) (by kernel_rfl) (by kernel_rfl) (fun _ _ _ h => h) (Or.inl ⟨by kernel_rfl, ?_⟩) (by assumption) ?_
        · (intro w' hS; go_simp)
        simp only [Act.put, List.setIfInBounds_toArray, List.set_cons_zero, List.set_cons_succ]
        refine wpAnyH_take (i := 9) (oi := ⟨some 41, _, _, _, _, _⟩) (v := .bool false) rfl (by kernel_rfl) (by kernel_rfl) (by kernel_rfl) (fun _ _ _ h => h) (Or.inl ⟨by kernel_rfl, ?_⟩) (by assumption) ?_
        · (intro w' hS; go_simp)
        simp only [Act.put, List.setIfInBounds_toArray, List.set_cons_zero, List.set_cons_succ]
        refine wpAnyH_take (i := 10) (oi := ⟨some 42, _, _, _, _, _⟩) (v := .bool false) rfl (by kernel_rfl) (by kernel_rfl) (by kernel_rfl) (fun _ _ _ h => h) (Or.inl ⟨by kernel_rfl, ?_⟩) (by assumption) ?_
        · (intro w' hS; go_simp)
        simp only [Act.put, List.setIfInBounds_toArray, List.set_cons_zero, List.set_cons_succ]
        refine wpAnyH_take (i := 11) (oi := ⟨some 43, _, _, _, _, _⟩) (v := undef) rfl (by kernel_rfl) (by kernel_rfl) (by kernel_rfl) (fun _ _ _ h => h) (Or.inr ⟨by kernel_rfl, rfl⟩) (by assumption) ?_
        simp only [Act.put, List.setIfInBounds_toArray, List.set_cons_zero, List.set_cons_succ]
        refine wpAnyH_take (i := 12) (oi := ⟨some 44, _, _, _, _, _⟩) (v := undef) rfl (by kernel_rfl) (by kernel_rfl) (by kernel_rfl) (fun _ _ _ h => h) (Or.inr ⟨by kernel_rfl, rfl⟩) (by assumption) ?_
        simp only [Act.put, List.setIfInBounds_toArray, List.set_cons_zero, List.set_cons_succ]
        refine wpAnyH_take (i := 13) (oi := ⟨some 45, _, _, _, _, _⟩) (v := undef) rfl (by kernel_rfl) (by kernel_rfl) (by kernel_rfl) (fun _ _ _ h => h) (Or.inr ⟨by kernel_rfl, rfl⟩) (by assumption) ?_
        simp only [Act.put, List.setIfInBounds_toArray, List.set_cons_zero, List.set_cons_succ]
        refine wpAnyH_take (i := 14) (oi := ⟨some 46, _, _, _, _, _⟩) (v := undef) rfl (by kernel_rfl) (by kernel_rfl) (by kernel_rfl) (fun _ _ _ h => h) (Or.inr ⟨by kernel_rfl, rfl⟩) (by assumption) ?_
        simp only [Act.put, List.setIfInBounds_toArray, List.set_cons_zero, List.set_cons_succ]
        refine wpAnyH_take (i := 15) (oi := ⟨some 47, _, _, _, _, _⟩) (v := undef) rfl (by kernel_rfl) (by kernel_rfl) (by kernel_rfl) (fun _ _ _ h => h) (Or.inr ⟨by kernel_rfl, rfl⟩) (by assumption) ?_
        simp only [Act.put, List.setIfInBounds_toArray, List.set_cons_zero, List.set_cons_succ]
        refine wpAnyH_take (i := 16) (oi := ⟨some 48, _, _, _, _, _⟩) (v := undef) rfl (by kernel_rfl) (by kernel_rfl) (by kernel_rfl) (fun _ _ _ h => h) (Or.inr ⟨by kernel_rfl, rfl⟩) (by assumption) ?_
        simp only [Act.put, List.setIfInBounds_toArray, List.set_cons_zero, List.set_cons_succ]
        refine wpAnyH_take (i := 17) (oi := ⟨some 49, _, _, _, _, _⟩) (v := .bool false) rfl (by kernel_rfl) (by kernel_rfl) (by kernel_rfl) (fun _ _ _ h => h) (Or.inl ⟨by kernel_rfl, ?_⟩) (by assumption) ?_
        · (intro w' hS; go_simp)
        simp only [Act.put, List.setIfInBounds_toArray, List.set_cons_zero, List.set_cons_succ]
        refine wpAnyH_take (i := 18) (oi := ⟨some 50, _, _, _, _, _⟩) (v := .bool false) rfl (by kernel_rfl) (by kernel_rfl) (by kernel_rfl) (fun _ _ _ h => h) (Or.inl ⟨by kernel_rfl, ?_⟩) (by assumption) ?_
        · (intro w' hS; go_simp)
        simp only [Act.put, List.setIfInBounds_toArray, List.set_cons_zero, List.set_cons_succ]
        refine wpAnyH_take (i := 19) (oi := ⟨some 51, _, _, _, _, _⟩) (v := undef) rfl (by kernel_rfl) (by kernel_rfl) (by kernel_rfl) (fun _ _ _ h => h) (Or.inr ⟨by kernel_rfl, rfl⟩) (by assumption) ?_
        simp only [Act.put, List.setIfInBounds_toArray, List.set_cons_zero, List.set_cons_succ]
        refine wpAnyH_take (i := 20) (oi := ⟨some 52, _, _, _, _, _⟩) (v := undef) rfl (by kernel_rfl) (by kernel_rfl) (by kernel_rfl) (fun _ _ _ h => h) (Or.inr ⟨by kernel_rfl, rfl⟩) (by assumption) ?_
        simp only [Act.put, List.setIfInBounds_toArray, List.set_cons_zero, List.set_cons_succ]
        refine wpAnyH_take (i := 21) (oi := ⟨some 53, _, _, _, _, _⟩) (v := undef) rfl (by kernel_rfl) (by kernel_rfl) (by kernel_rfl) (fun _ _ _ h => h) (Or.inr ⟨by kernel_rfl, rfl⟩) (by assumption) ?_
        simp only [Act.put, List.setIfInBounds_toArray, List.set_cons_zero, List.set_cons_succ]
        refine wpAnyH_take (i := 22) (oi := ⟨some 54, _, _, _, _, _⟩) (v := undef) rfl (by kernel_rfl) (by kernel_rfl) (by kernel_rfl) (fun _ _ _ h => h) (Or.inr ⟨by kernel_rfl, rfl⟩) (by assumption) ?_
        simp only [Act.put, List.setIfInBounds_toArray, List.set_cons_zero, List.set_cons_succ]
        refine wpAnyH_take (i := 23) (oi := ⟨some 55, _, _, _, _, _⟩) (v := undef) rfl (by kernel_rfl) (by kernel_rfl) (by kernel_rfl) (fun _ _ _ h => h) (Or.inr ⟨by kernel_rfl, rfl⟩) (by assumption) ?_
        simp only [Act.put, List.setIfInBounds_toArray, List.set_cons_zero, List.set_cons_succ]
        refine wpAnyH_take (i := 24) (oi := ⟨some 56, _, _, _, _, _⟩) (v := undef) rfl (by kernel_rfl) (by kernel_rfl) (by kernel_rfl) (fun _ _ _ h => h) (Or.inr ⟨by kernel_rfl, rfl⟩) (by assumption) ?_
        simp only [Act.put, List.setIfInBounds_toArray, List.set_cons_zero, List.set_cons_succ]
        refine wpAnyH_take (i := 25) (oi := ⟨some 57, _, _, _, _, _⟩) (v := undef) rfl (by kernel_rfl) (by kernel_rfl) (by kernel_rfl) (fun _ _ _ h => h) (Or.inr ⟨by kernel_rfl, rfl⟩) (by assumption) ?_
        simp only [Act.put, List.setIfInBounds_toArray, List.set_cons_zero, List.set_cons_succ]
        refine wpAnyH_take (i := 26) (oi := ⟨some 58, _, _, _, _, _⟩) (v := undef) rfl (by kernel_rfl) (by kernel_rfl) (by kernel_rfl) (fun _ _ _ h => h) (Or.inr ⟨by kernel_rfl, rfl⟩) (by assumption) ?_
        simp only [Act.put, List.setIfInBounds_toArray, List.set_cons_zero, List.set_cons_succ]
        refine wpAnyH_take (i := 27) (oi := ⟨some 59, _, _, _, _, _⟩) (v := undef) rfl (by kernel_rfl) (by kernel_rfl) (by kernel_rfl) (fun _ _ _ h => h) (Or.inr ⟨by kernel_rfl, rfl⟩) (by assumption) ?_
        simp only [Act.put, List.setIfInBounds_toArray, List.set_cons_zero, List.set_cons_succ]
        refine wpAnyH_take (i := 28) (oi := ⟨some 60, _, _, _, _, _⟩) (v := .bool false) rfl (by kernel_rfl) (by kernel_rfl) (by kernel_rfl) (fun _ _ _ h => h) (Or.inl ⟨by kernel_rfl, ?_⟩) (by assumption) ?_
        · (intro w' hS; go_simp)
        simp only [Act.put, List.setIfInBounds_toArray, List.set_cons_zero, List.set_cons_succ]
        refine wpAnyH_take (i := 29) (oi := ⟨some 61, _, _, _, _, _⟩) (v := .bool false) rfl (by kernel_rfl) (by kernel_rfl) (by kernel_rfl) (fun _ _ _ h => h) (Or.inl ⟨by kernel_rfl, ?_⟩) (by assumption) ?_
        · (intro w' hS; go_simp)
        simp only [Act.put, List.setIfInBounds_toArray, List.set_cons_zero, List.set_cons_succ]
        refine wpAnyH_done (by kernel_rfl) ?_ _
        have HH := Lib.hid hHeld2.1
        clear hHeld2 d0 d1 d2 d3 d4 d5 d6 x0 x1 x2 x3 hl1 hl2 hlen hI hB hg hB2 hg2 hk9
        go_wp2
        refine ⟨⟨dn ++ [t], r, dx ++ [x], rx, by rw [← HI.out.eq]; simp, by rw [← HI.out.ex]; simp, by simp, by rw [List.length_append, List.length_append, HI.out.ln]; rfl, HK2.out.trans HH.out, HMT.out⟩, ?_⟩
        simp [intOf]; omega
      · rcases HSP.out rfl with hsp | ⟨hsp, hsq⟩
        · refine wp_region_held_drew (S := HS w2 wr.heap.size g2 dn.length t x) (by kernel_rfl) ⟨(Kp.refl _ w2).drew, d0, d1, d2, d3, d4, d5, d6, x0, x1, x2, x3⟩ (fun hHeld => ?_)
          refine wpAnyH_take (i := 0) (oi := ⟨some 32, _, _, _, _, _⟩) (v := .string text) rfl (by kernel_rfl) (by kernel_rfl) (by kernel_rfl) (fun _ _ _ h => h) (Or.inl ⟨by kernel_rfl, ?_⟩) (by assumption) ?_
          · (intro w' hS; go_simp)
          simp only [Act.put, List.setIfInBounds_toArray, List.set_cons_zero, List.set_cons_succ]
          refine wpAnyH_take (i := 1) (oi := ⟨some 33, _, _, _, _, _⟩) (v := rdV t) rfl (by kernel_rfl) (by kernel_rfl) (by kernel_rfl) (fun _ _ _ h => h) (Or.inl ⟨by kernel_rfl, ?_⟩) (by assumption) ?_
          · (intro w' hS; obtain ⟨s0, s1, s2, s3, s4, s5, s6, s7, s8, s9, sa, sb⟩ := hS; unfold rdV; go_simp)
          simp only [Act.put, List.setIfInBounds_toArray, List.set_cons_zero, List.set_cons_succ]
          refine wpAnyH_take (i := 2) (oi := ⟨some 34, _, _, _, _, _⟩) (v := .slice (some ⟨g2, 0, none⟩) xs.length cx) rfl (by kernel_rfl) (by kernel_rfl) (by kernel_rfl) (fun _ _ _ h => h) (Or.inl ⟨by kernel_rfl, ?_⟩) (by assumption) ?_
          · (intro w' hS; go_simp)
          simp only [Act.put, List.setIfInBounds_toArray, List.set_cons_zero, List.set_cons_succ]
          refine wpAnyH_take (i := 3) (oi := ⟨some 35, _, _, _, _, _⟩) (v := .int .i64 (dn.length : Nat)) rfl (by kernel_rfl) (by kernel_rfl) (by kernel_rfl) (fun _ _ _ h => h) (Or.inl ⟨by kernel_rfl, ?_⟩) (by assumption) ?_
          · (intro w' hS; go_simp)
          simp only [Act.put, List.setIfInBounds_toArray, List.set_cons_zero, List.set_cons_succ]
          refine wpAnyH_take (i := 4) (oi := ⟨some 36, _, _, _, _, _⟩) (v := .pointer (some ⟨g2, dn.length * 4, none⟩)) rfl (by kernel_rfl) (by kernel_rfl) (by kernel_rfl) (fun _ _ _ h => h) (Or.inl ⟨by kernel_rfl, ?_⟩) (by assumption) ?_
          · (intro w' hS; go_simp)
          simp only [Act.put, List.setIfInBounds_toArray, List.set_cons_zero, List.set_cons_succ]
          refine wpAnyH_take (i := 5) (oi := ⟨some 37, _, _, _, _, _⟩) (v := x.val) rfl (by kernel_rfl) (by kernel_rfl) (by kernel_rfl) (fun _ _ _ h => h) (Or.inl ⟨by kernel_rfl, ?_⟩) (by assumption) ?_
          · (intro w' hS; obtain ⟨s0, s1, s2, s3, s4, s5, s6, s7, s8, s9, sa, sb⟩ := hS; unfold It.val; go_simp)
          simp only [Act.put, List.setIfInBounds_toArray, List.set_cons_zero, List.set_cons_succ]
          refine wpAnyH_ready (rs := [6]) (by kernel_rfl) (by simp) ?_
          refine AllReadyH.cons (o := ⟨some 38, _, _, _, _, _⟩) rfl (fun K hK => ?_) AllReadyH.nil
          go_simp
          go_wp2_with (go_at_call 25; refine (HIS.out t x _ HP.out).mono ?_; rintro e w9 ⟨rfl, hk9⟩)
          refine hK.out _ _ (hHeld.kp hblt hg2' hk9) (fun hHeld2 => ?_)
          clear hHeld
          try simp only [Act.put, List.setIfInBounds_toArray, List.set_cons_zero, List.set_cons_succ]
          refine wpAnyH_take (i := 7) (oi := ⟨some 39, _, _, _, _, _⟩) (v := .bool false) rfl (by kernel_rfl) (by kernel_rfl) (by kernel_rfl) (fun _ _ _ h => h) (Or.inl ⟨by kernel_rfl, ?_⟩) (by assumption) ?_
          · (intro w' hS; go_simp)
          simp only [Act.put, List.setIfInBounds_toArray, List.set_cons_zero, List.set_cons_succ]
          refine wpAnyH_take (i := 8) (oi := ⟨some 40, _, _, _, _, _⟩) (v := .bool false) rfl (by kernel_rfl) (by kernel_rfl) (by kernel_rfl) (fun _ _ _ h => h) (Or.inl ⟨by kernel_rfl, ?_⟩) (by assumption) ?_
          · (intro w' hS; go_simp)
          simp only [Act.put, List.setIfInBounds_toArray, List.set_cons_zero, List.set_cons_succ]
          refine wpAnyH_take (i := 9) (oi := ⟨some 41, _, _, _, _, _⟩) (v := .bool true) rfl (by kernel_rfl) (by kernel_rfl) (by kernel_rfl) (fun _ _ _ h => h) (Or.inl ⟨by kernel_rfl, ?_⟩) (by assumption) ?_
          · (intro w' hS; go_simp)
          simp only [Act.put, List.setIfInBounds_toArray, List.set_cons_zero, List.set_cons_succ]
          refine wpAnyH_take (i := 10) (oi := ⟨some 42, _, _, _, _, _⟩) (v := .bool true) rfl (by kernel_rfl) (by kernel_rfl) (by kernel_rfl) (fun _ _ _ h => h) (Or.inl ⟨by kernel_rfl, ?_⟩) (by assumption) ?_
          · (intro w' hS; go_simp)
          simp only [Act.put, List.setIfInBounds_toArray, List.set_cons_zero, List.set_cons_succ]
          refine wpAnyH_take (i := 11) (oi := ⟨some 43, _, _, _, _, _⟩) (v := .slice (some ⟨g2, 0, none⟩) xs.length cx) rfl (by kernel_rfl) (by kernel_rfl) (by kernel_rfl) (fun _ _ _ h => h) (Or.inl ⟨by kernel_rfl, ?_⟩) (by assumption) ?_
          · (intro w' hS; go_simp)
          simp only [Act.put, List.setIfInBounds_toArray, List.set_cons_zero, List.set_cons_succ]
          refine wpAnyH_take (i := 12) (oi := ⟨some 44, _, _, _, _, _⟩) (v := .int .i64 (dn.length : Nat)) rfl (by kernel_rfl) (by kernel_rfl) (by kernel_rfl) (fun _ _ _ h => h) (Or.inl ⟨by kernel_rfl, ?_⟩) (by assumption) ?_
          · (intro w' hS; go_simp)
          simp only [Act.put, List.setIfInBounds_toArray, List.set_cons_zero, List.set_cons_succ]
          refine wpAnyH_take (i := 13) (oi := ⟨some 45, _, _, _, _, _⟩) (v := .pointer (some ⟨g2, dn.length * 4, none⟩)) rfl (by kernel_rfl) (by kernel_rfl) (by kernel_rfl) (fun _ _ _ h => h) (Or.inl ⟨by kernel_rfl, ?_⟩) (by assumption) ?_
          · (intro w' hS; go_simp)
          simp only [Act.put, List.setIfInBounds_toArray, List.set_cons_zero, List.set_cons_succ]
          refine wpAnyH_take (i := 14) (oi := ⟨some 46, _, _, _, _, _⟩) (v := .pointer (some ⟨g2, dn.length * 4 + 3, none⟩)) rfl (by kernel_rfl) (by kernel_rfl) (by kernel_rfl) (fun _ _ _ h => h) (Or.inl ⟨by kernel_rfl, ?_⟩) (by assumption) ?_
          · (intro w' hS; go_simp)
          simp only [Act.put, List.setIfInBounds_toArray, List.set_cons_zero, List.set_cons_succ]
          refine wpAnyH_take (i := 15) (oi := ⟨some 47, _, _, _, _, _⟩) (v := .int .i64 x.sp) rfl (by kernel_rfl) (by kernel_rfl) (by kernel_rfl) (fun _ _ _ h => h) (Or.inl ⟨by kernel_rfl, ?_⟩) (by assumption) ?_
          · (intro w' hS; obtain ⟨s0, s1, s2, s3, s4, s5, s6, s7, s8, s9, sa, sb⟩ := hS; go_simp)
          simp only [Act.put, List.setIfInBounds_toArray, List.set_cons_zero, List.set_cons_succ]
          refine wpAnyH_take (i := 16) (oi := ⟨some 48, _, _, _, _, _⟩) (v := .bool false) rfl (by kernel_rfl) (by kernel_rfl) (by kernel_rfl) (fun _ _ _ h => h) (Or.inl ⟨by kernel_rfl, ?_⟩) (by assumption) ?_
          · (intro w' hS; go_simp)
          simp only [Act.put, List.setIfInBounds_toArray, List.set_cons_zero, List.set_cons_succ]
          refine wpAnyH_take (i := 17) (oi := ⟨some 49, _, _, _, _, _⟩) (v := .bool false) rfl (by kernel_rfl) (by kernel_rfl) (by kernel_rfl) (fun _ _ _ h => h) (Or.inl ⟨by kernel_rfl, ?_⟩) (by assumption) ?_
          · (intro w' hS; go_simp)
          simp only [Act.put, List.setIfInBounds_toArray, List.set_cons_zero, List.set_cons_succ]
          refine wpAnyH_take (i := 18) (oi := ⟨some 50, _, _, _, _, _⟩) (v := .bool false) rfl (by kernel_rfl) (by kernel_rfl) (by kernel_rfl) (fun _ _ _ h => h) (Or.inl ⟨by kernel_rfl, ?_⟩) (by assumption) ?_
          · (intro w' hS; go_simp)
          simp only [Act.put, List.setIfInBounds_toArray, List.set_cons_zero, List.set_cons_succ]
          refine wpAnyH_take (i := 19) (oi := ⟨some 51, _, _, _, _, _⟩) (v := undef) rfl (by kernel_rfl) (by kernel_rfl) (by kernel_rfl) (fun _ _ _ h => h) (Or.inr ⟨by kernel_rfl, rfl⟩) (by assumption) ?_
          simp only [Act.put, List.setIfInBounds_toArray, List.set_cons_zero, List.set_cons_succ]
          refine wpAnyH_take (i := 20) (oi := ⟨some 52, _, _, _, _, _⟩) (v := undef) rfl (by kernel_rfl) (by kernel_rfl) (by kernel_rfl) (fun _ _ _ h => h) (Or.inr ⟨by kernel_rfl, rfl⟩) (by assumption) ?_
          simp only [Act.put, List.setIfInBounds_toArray, List.set_cons_zero, List.set_cons_succ]
          refine wpAnyH_take (i := 21) (oi := ⟨some 53, _, _, _, _, _⟩) (v := undef) rfl (by kernel_rfl) (by kernel_rfl) (by kernel_rfl) (fun _ _ _ h => h) (Or.inr ⟨by kernel_rfl, rfl⟩) (by assumption) ?_
          simp only [Act.put, List.setIfInBounds_toArray, List.set_cons_zero, List.set_cons_succ]
          refine wpAnyH_take (i := 22) (oi := ⟨some 54, _, _, _, _, _⟩) (v := undef) rfl (by kernel_rfl) (by kernel_rfl) (by kernel_rfl) (fun _ _ _ h => h) (Or.inr ⟨by kernel_rfl, rfl⟩) (by assumption) ?_
          simp only [Act.put, List.setIfInBounds_toArray, List.set_cons_zero, List.set_cons_succ]
          refine wpAnyH_take (i := 23) (oi := ⟨some 55, _, _, _, _, _⟩) (v := undef) rfl (by kernel_rfl) (by kernel_rfl) (by kernel_rfl) (fun _ _ _ h => h) (Or.inr ⟨by kernel_rfl, rfl⟩) (by assumption) ?_
          simp only [Act.put, List.setIfInBounds_toArray, List.set_cons_zero, List.set_cons_succ]
          refine wpAnyH_take (i := 24) (oi := ⟨some 56, _, _, _, _, _⟩) (v := undef) rfl (by kernel_rfl) (by kernel_rfl) (by kernel_rfl) (fun _ _ _ h => h) (Or.inr ⟨by kernel_rfl, rfl⟩) (by assumption) ?_
          simp only [Act.put, List.setIfInBounds_toArray, List.set_cons_zero, List.set_cons_succ]
          refine wpAnyH_take (i := 25) (oi := ⟨some 57, _, _, _, _, _⟩) (v := undef) rfl (by kernel_rfl) (by kernel_rfl) (by kernel_rfl) (fun _ _ _ h => h) (Or.inr ⟨by kernel_rfl, rfl⟩) (by assumption) ?_
          simp only [Act.put, List.setIfInBounds_toArray, List.set_cons_zero, List.set_cons_succ]
          refine wpAnyH_take (i := 26) (oi := ⟨some 58, _, _, _, _, _⟩) (v := undef) rfl (by kernel_rfl) (by kernel_rfl) (by kernel_rfl) (fun _ _ _ h => h) (Or.inr ⟨by kernel_rfl, rfl⟩) (by assumption) ?_
          simp only [Act.put, List.setIfInBounds_toArray, List.set_cons_zero, List.set_cons_succ]
          refine wpAnyH_take (i := 27) (oi := ⟨some 59, _, _, _, _, _⟩) (v := undef) rfl (by kernel_rfl) (by kernel_rfl) (by kernel_rfl) (fun _ _ _ h => h) (Or.inr ⟨by kernel_rfl, rfl⟩) (by assumption) ?_
          simp only [Act.put, List.setIfInBounds_toArray, List.set_cons_zero, List.set_cons_succ]
          refine wpAnyH_take (i := 28) (oi := ⟨some 60, _, _, _, _, _⟩) (v := .bool false) rfl (by kernel_rfl) (by kernel_rfl) (by kernel_rfl) (fun _ _ _ h => h) (Or.inl ⟨by kernel_rfl, ?_⟩) (by assumption) ?_
          · (intro w' hS; go_simp)
          simp only [Act.put, List.setIfInBounds_toArray, List.set_cons_zero, List.set_cons_succ]
          refine wpAnyH_take (i := 29) (oi := ⟨some 61, _, _, _, _, _⟩) (v := .bool false) rfl (by kernel_rfl) (by kernel_rfl) (by kernel_rfl) (fun _ _ _ h => h) (Or.inl ⟨by kernel_rfl, ?_⟩) (by assumption) ?_
          · (intro w' hS; go_simp)
          simp only [Act.put, List.setIfInBounds_toArray, List.set_cons_zero, List.set_cons_succ]
          refine wpAnyH_done (by kernel_rfl) ?_ _
          have HH := Lib.hid hHeld2.1
          clear hHeld2 d0 d1 d2 d3 d4 d5 d6 x0 x1 x2 x3 hl1 hl2 hlen hI hB hg hB2 hg2 hk9
          go_wp2
          refine ⟨⟨dn ++ [t], r, dx ++ [x], rx, by rw [← HI.out.eq]; simp, by rw [← HI.out.ex]; simp, by simp, by rw [List.length_append, List.length_append, HI.out.ln]; rfl, HK2.out.trans HH.out, HMT.out⟩, ?_⟩
          simp [intOf]; omega
        · have hsr : (x.sp == 1) = t.2 := by rw [hsq, Bool.eq_iff_iff]; simp
          clear hsq
          refine wp_region_held_drew (S := HS w2 wr.heap.size g2 dn.length t x) (by kernel_rfl) ⟨(Kp.refl _ w2).drew, d0, d1, d2, d3, d4, d5, d6, x0, x1, x2, x3⟩ (fun hHeld => ?_)
          refine wpAnyH_take (i := 0) (oi := ⟨some 32, _, _, _, _, _⟩) (v := .string text) rfl (by kernel_rfl) (by kernel_rfl) (by kernel_rfl) (fun _ _ _ h => h) (Or.inl ⟨by kernel_rfl, ?_⟩) (by assumption) ?_
          · (intro w' hS; go_simp)
          simp only [Act.put, List.setIfInBounds_toArray, List.set_cons_zero, List.set_cons_succ]
          refine wpAnyH_take (i := 1) (oi := ⟨some 33, _, _, _, _, _⟩) (v := rdV t) rfl (by kernel_rfl) (by kernel_rfl) (by kernel_rfl) (fun _ _ _ h => h) (Or.inl ⟨by kernel_rfl, ?_⟩) (by assumption) ?_
          · (intro w' hS; obtain ⟨s0, s1, s2, s3, s4, s5, s6, s7, s8, s9, sa, sb⟩ := hS; unfold rdV; go_simp)
          simp only [Act.put, List.setIfInBounds_toArray, List.set_cons_zero, List.set_cons_succ]
          refine wpAnyH_take (i := 2) (oi := ⟨some 34, _, _, _, _, _⟩) (v := .slice (some ⟨g2, 0, none⟩) xs.length cx) rfl (by kernel_rfl) (by kernel_rfl) (by kernel_rfl) (fun _ _ _ h => h) (Or.inl ⟨by kernel_rfl, ?_⟩) (by assumption) ?_
          · (intro w' hS; go_simp)
          simp only [Act.put, List.setIfInBounds_toArray, List.set_cons_zero, List.set_cons_succ]
          refine wpAnyH_take (i := 3) (oi := ⟨some 35, _, _, _, _, _⟩) (v := .int .i64 (dn.length : Nat)) rfl (by kernel_rfl) (by kernel_rfl) (by kernel_rfl) (fun _ _ _ h => h) (Or.inl ⟨by kernel_rfl, ?_⟩) (by assumption) ?_
          · (intro w' hS; go_simp)
          simp only [Act.put, List.setIfInBounds_toArray, List.set_cons_zero, List.set_cons_succ]
          refine wpAnyH_take (i := 4) (oi := ⟨some 36, _, _, _, _, _⟩) (v := .pointer (some ⟨g2, dn.length * 4, none⟩)) rfl (by kernel_rfl) (by kernel_rfl) (by kernel_rfl) (fun _ _ _ h => h) (Or.inl ⟨by kernel_rfl, ?_⟩) (by assumption) ?_
          · (intro w' hS; go_simp)
          simp only [Act.put, List.setIfInBounds_toArray, List.set_cons_zero, List.set_cons_succ]
          refine wpAnyH_take (i := 5) (oi := ⟨some 37, _, _, _, _, _⟩) (v := x.val) rfl (by kernel_rfl) (by kernel_rfl) (by kernel_rfl) (fun _ _ _ h => h) (Or.inl ⟨by kernel_rfl, ?_⟩) (by assumption) ?_
          · (intro w' hS; obtain ⟨s0, s1, s2, s3, s4, s5, s6, s7, s8, s9, sa, sb⟩ := hS; unfold It.val; go_simp)
          simp only [Act.put, List.setIfInBounds_toArray, List.set_cons_zero, List.set_cons_succ]
          refine wpAnyH_ready (rs := [6]) (by kernel_rfl) (by simp) ?_
          refine AllReadyH.cons (o := ⟨some 38, _, _, _, _, _⟩) rfl (fun K hK => ?_) AllReadyH.nil
          go_simp
          go_wp2_with (go_at_call 25; refine (HIS.out t x _ HP.out).mono ?_; rintro e w9 ⟨rfl, hk9⟩)
          refine hK.out _ _ (hHeld.kp hblt hg2' hk9) (fun hHeld2 => ?_)
          clear hHeld
          try simp only [Act.put, List.setIfInBounds_toArray, List.set_cons_zero, List.set_cons_succ]
          refine wpAnyH_take (i := 7) (oi := ⟨some 39, _, _, _, _, _⟩) (v := .bool false) rfl (by kernel_rfl) (by kernel_rfl) (by kernel_rfl) (fun _ _ _ h => h) (Or.inl ⟨by kernel_rfl, ?_⟩) (by assumption) ?_
          · (intro w' hS; go_simp)
          simp only [Act.put, List.setIfInBounds_toArray, List.set_cons_zero, List.set_cons_succ]
          refine wpAnyH_take (i := 8) (oi := ⟨some 40, _, _, _, _, _⟩) (v := .bool false) rfl (by kernel_rfl) (by kernel_rfl) (by kernel_rfl) (fun _ _ _ h => h) (Or.inl ⟨by kernel_rfl, ?_⟩) (by assumption) ?_
          · (intro w' hS; go_simp)
          simp only [Act.put, List.setIfInBounds_toArray, List.set_cons_zero, List.set_cons_succ]
          refine wpAnyH_take (i := 9) (oi := ⟨some 41, _, _, _, _, _⟩) (v := .bool true) rfl (by kernel_rfl) (by kernel_rfl) (by kernel_rfl) (fun _ _ _ h => h) (Or.inl ⟨by kernel_rfl, ?_⟩) (by assumption) ?_
          · (intro w' hS; go_simp)
          simp only [Act.put, List.setIfInBounds_toArray, List.set_cons_zero, List.set_cons_succ]
          refine wpAnyH_take (i := 10) (oi := ⟨some 42, _, _, _, _, _⟩) (v := .bool true) rfl (by kernel_rfl) (by kernel_rfl) (by kernel_rfl) (fun _ _ _ h => h) (Or.inl ⟨by kernel_rfl, ?_⟩) (by assumption) ?_
          · (intro w' hS; go_simp)
          simp only [Act.put, List.setIfInBounds_toArray, List.set_cons_zero, List.set_cons_succ]
          refine wpAnyH_take (i := 11) (oi := ⟨some 43, _, _, _, _, _⟩) (v := .slice (some ⟨g2, 0, none⟩) xs.length cx) rfl (by kernel_rfl) (by kernel_rfl) (by kernel_rfl) (fun _ _ _ h => h) (Or.inl ⟨by kernel_rfl, ?_⟩) (by assumption) ?_
          · (intro w' hS; go_simp)
          simp only [Act.put, List.setIfInBounds_toArray, List.set_cons_zero, List.set_cons_succ]
          refine wpAnyH_take (i := 12) (oi := ⟨some 44, _, _, _, _, _⟩) (v := .int .i64 (dn.length : Nat)) rfl (by kernel_rfl) (by kernel_rfl) (by kernel_rfl) (fun _ _ _ h => h) (Or.inl ⟨by kernel_rfl, ?_⟩) (by assumption) ?_
          · (intro w' hS; go_simp)
          simp only [Act.put, List.setIfInBounds_toArray, List.set_cons_zero, List.set_cons_succ]
          refine wpAnyH_take (i := 13) (oi := ⟨some 45, _, _, _, _, _⟩) (v := .pointer (some ⟨g2, dn.length * 4, none⟩)) rfl (by kernel_rfl) (by kernel_rfl) (by kernel_rfl) (fun _ _ _ h => h) (Or.inl ⟨by kernel_rfl, ?_⟩) (by assumption) ?_
          · (intro w' hS; go_simp)
          simp only [Act.put, List.setIfInBounds_toArray, List.set_cons_zero, List.set_cons_succ]
          refine wpAnyH_take (i := 14) (oi := ⟨some 46, _, _, _, _, _⟩) (v := .pointer (some ⟨g2, dn.length * 4 + 3, none⟩)) rfl (by kernel_rfl) (by kernel_rfl) (by kernel_rfl) (fun _ _ _ h => h) (Or.inl ⟨by kernel_rfl, ?_⟩) (by assumption) ?_
          · (intro w' hS; go_simp)
          simp only [Act.put, List.setIfInBounds_toArray, List.set_cons_zero, List.set_cons_succ]
          refine wpAnyH_take (i := 15) (oi := ⟨some 47, _, _, _, _, _⟩) (v := .int .i64 x.sp) rfl (by kernel_rfl) (by kernel_rfl) (by kernel_rfl) (fun _ _ _ h => h) (Or.inl ⟨by kernel_rfl, ?_⟩) (by assumption) ?_
          · (intro w' hS; obtain ⟨s0, s1, s2, s3, s4, s5, s6, s7, s8, s9, sa, sb⟩ := hS; go_simp)
          simp only [Act.put, List.setIfInBounds_toArray, List.set_cons_zero, List.set_cons_succ]
          refine wpAnyH_take (i := 16) (oi := ⟨some 48, _, _, _, _, _⟩) (v := .bool true) rfl (by kernel_rfl) (by kernel_rfl) (by kernel_rfl) (fun _ _ _ h => h) (Or.inl ⟨by kernel_rfl, ?_⟩) (by assumption) ?_
          · (intro w' hS; go_simp)
          simp only [Act.put, List.setIfInBounds_toArray, List.set_cons_zero, List.set_cons_succ]
          refine wpAnyH_take (i := 17) (oi := ⟨some 49, _, _, _, _, _⟩) (v := .bool true) rfl (by kernel_rfl) (by kernel_rfl) (by kernel_rfl) (fun _ _ _ h => h) (Or.inl ⟨by kernel_rfl, ?_⟩) (by assumption) ?_
          · (intro w' hS; go_simp)
          simp only [Act.put, List.setIfInBounds_toArray, List.set_cons_zero, List.set_cons_succ]
          refine wpAnyH_take (i := 18) (oi := ⟨some 50, _, _, _, _, _⟩) (v := .bool true) rfl (by kernel_rfl) (by kernel_rfl) (by kernel_rfl) (fun _ _ _ h => h) (Or.inl ⟨by kernel_rfl, ?_⟩) (by assumption) ?_
          · (intro w' hS; go_simp)
          simp only [Act.put, List.setIfInBounds_toArray, List.set_cons_zero, List.set_cons_succ]
          refine wpAnyH_take (i := 19) (oi := ⟨some 51, _, _, _, _, _⟩) (v := .pointer (some ⟨wr.heap.size, 6, none⟩)) rfl (by kernel_rfl) (by kernel_rfl) (by kernel_rfl) (fun _ _ _ h => h) (Or.inl ⟨by kernel_rfl, ?_⟩) (by assumption) ?_
          · (intro w' hS; go_simp)
          simp only [Act.put, List.setIfInBounds_toArray, List.set_cons_zero, List.set_cons_succ]
          refine wpAnyH_take (i := 20) (oi := ⟨some 52, _, _, _, _, _⟩) (v := .bool t.2) rfl (by kernel_rfl) (by kernel_rfl) (by kernel_rfl) (fun _ _ _ h => h) (Or.inl ⟨by kernel_rfl, ?_⟩) (by assumption) ?_
          · (intro w' hS; obtain ⟨s0, s1, s2, s3, s4, s5, s6, s7, s8, s9, sa, sb⟩ := hS; go_simp)
          simp only [Act.put, List.setIfInBounds_toArray, List.set_cons_zero, List.set_cons_succ]
          refine wpAnyH_take (i := 21) (oi := ⟨some 53, _, _, _, _, _⟩) (v := .slice (some ⟨g2, 0, none⟩) xs.length cx) rfl (by kernel_rfl) (by kernel_rfl) (by kernel_rfl) (fun _ _ _ h => h) (Or.inl ⟨by kernel_rfl, ?_⟩) (by assumption) ?_
          · (intro w' hS; go_simp)
          simp only [Act.put, List.setIfInBounds_toArray, List.set_cons_zero, List.set_cons_succ]
          refine wpAnyH_take (i := 22) (oi := ⟨some 54, _, _, _, _, _⟩) (v := .int .i64 (dn.length : Nat)) rfl (by kernel_rfl) (by kernel_rfl) (by kernel_rfl) (fun _ _ _ h => h) (Or.inl ⟨by kernel_rfl, ?_⟩) (by assumption) ?_
          · (intro w' hS; go_simp)
          simp only [Act.put, List.setIfInBounds_toArray, List.set_cons_zero, List.set_cons_succ]
          refine wpAnyH_take (i := 23) (oi := ⟨some 55, _, _, _, _, _⟩) (v := .pointer (some ⟨g2, dn.length * 4, none⟩)) rfl (by kernel_rfl) (by kernel_rfl) (by kernel_rfl) (fun _ _ _ h => h) (Or.inl ⟨by kernel_rfl, ?_⟩) (by assumption) ?_
          · (intro w' hS; go_simp)
          simp only [Act.put, List.setIfInBounds_toArray, List.set_cons_zero, List.set_cons_succ]
          refine wpAnyH_take (i := 24) (oi := ⟨some 56, _, _, _, _, _⟩) (v := .pointer (some ⟨g2, dn.length * 4 + 3, none⟩)) rfl (by kernel_rfl) (by kernel_rfl) (by kernel_rfl) (fun _ _ _ h => h) (Or.inl ⟨by kernel_rfl, ?_⟩) (by assumption) ?_
          · (intro w' hS; go_simp)
          simp only [Act.put, List.setIfInBounds_toArray, List.set_cons_zero, List.set_cons_succ]
          refine wpAnyH_take (i := 25) (oi := ⟨some 57, _, _, _, _, _⟩) (v := .int .i64 x.sp) rfl (by kernel_rfl) (by kernel_rfl) (by kernel_rfl) (fun _ _ _ h => h) (Or.inl ⟨by kernel_rfl, ?_⟩) (by assumption) ?_
          · (intro w' hS; obtain ⟨s0, s1, s2, s3, s4, s5, s6, s7, s8, s9, sa, sb⟩ := hS; go_simp)
          simp only [Act.put, List.setIfInBounds_toArray, List.set_cons_zero, List.set_cons_succ]
          refine wpAnyH_take (i := 26) (oi := ⟨some 58, _, _, _, _, _⟩) (v := .bool t.2) rfl (by kernel_rfl) (by kernel_rfl) (by kernel_rfl) (fun _ _ _ h => h) (Or.inl ⟨by kernel_rfl, ?_⟩) (by assumption) ?_
          · (intro w' hS; go_simp)
          simp only [Act.put, List.setIfInBounds_toArray, List.set_cons_zero, List.set_cons_succ]
          refine wpAnyH_take (i := 27) (oi := ⟨some 59, _, _, _, _, _⟩) (v := .bool false) rfl (by kernel_rfl) (by kernel_rfl) (by kernel_rfl) (fun _ _ _ h => h) (Or.inl ⟨by kernel_rfl, ?_⟩) (by assumption) ?_
          · (intro w' hS; go_simp)
          simp only [Act.put, List.setIfInBounds_toArray, List.set_cons_zero, List.set_cons_succ]
          refine wpAnyH_take (i := 28) (oi := ⟨some 60, _, _, _, _, _⟩) (v := .bool false) rfl (by kernel_rfl) (by kernel_rfl) (by kernel_rfl) (fun _ _ _ h => h) (Or.inl ⟨by kernel_rfl, ?_⟩) (by assumption) ?_
          · (intro w' hS; go_simp)
          simp only [Act.put, List.setIfInBounds_toArray, List.set_cons_zero, List.set_cons_succ]
          refine wpAnyH_take (i := 29) (oi := ⟨some 61, _, _, _, _, _⟩) (v := .bool false) rfl (by kernel_rfl) (by kernel_rfl) (by kernel_rfl) (fun _ _ _ h => h) (Or.inl ⟨by kernel_rfl, ?_⟩) (by assumption) ?_
          · (intro w' hS; go_simp)
          simp only [Act.put, List.setIfInBounds_toArray, List.set_cons_zero, List.set_cons_succ]
          refine wpAnyH_done (by kernel_rfl) ?_ _
          have HH := Lib.hid hHeld2.1
          clear hHeld2 d0 d1 d2 d3 d4 d5 d6 x0 x1 x2 x3 hl1 hl2 hlen hI hB hg hB2 hg2 hk9
          go_wp2
          refine ⟨⟨dn ++ [t], r, dx ++ [x], rx, by rw [← HI.out.eq]; simp, by rw [← HI.out.ex]; simp, by simp, by rw [List.length_append, List.length_append, HI.out.ln]; rfl, HK2.out.trans HH.out, HMT.out⟩, ?_⟩
          simp [intOf]; omega
end Go.Proofs.YtkaejhdncohgpaaGreatFmt
