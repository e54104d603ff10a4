/- Walks: unicode.SimpleFold at the code points that matter; strings.EqualFold at five bytes and the word style. Condition: the listed tables. -/
import Derived.Test.YtkaejhdncohgpaaGreatFmtM8
import Derived.Test.YtkaejhdncohgpaaGreatFmtM4
import Derived.ScopeJumps
import Derived.Lib.RuneCountTail
import Derived.Lib.MapLaws
namespace Go.Proofs.YtkaejhdncohgpaaGreatFmt
set_option linter.all false
open Go.RowKit Go.Lib
set_option maxRecDepth 100000
set_option maxHeartbeats 4000000

section
variable {P : Program} {a : Act} {w : World} {Q : Exit → Act → World → Prop}
/-- A scope from which one jump leads to a label in it: what follows the label is walked at the jump. -/
theorem wp_scope_in {c rest : Code} (l : Nat) (hf : findLabel c l = some rest) (first : c.wp P (Exit.jump l (fun a w => rest.wp P (Exit.jump l (fun _ _ => False) Q) a w) Q) a w) : (Code.scope c).wp P Q a w :=
  wp_scope_jumps l _ (fun _ _ => 0) hf first fun a w h => Code.wp_mono (fun e a w h => by
    cases e with
    | goto l' => exact absurd h.2 id
    | _ => exact h) h
end
theorem SimpleFold_ascii (c : Nat) (hc : c < 128) (w : World) (hF : FoldV w) : Calls Tryz.prog 130 #[.int .i32 c] w fun e w' => e = .returned (.int .i32 (foldN c)) ∧ w' = w := by
  have hcell := hF.1 c hc
  have hf0 : 0 ≤ foldN c := by unfold foldN; repeat' split
                               all_goals omega
  have hf1 : foldN c ≤ 65535 := by unfold foldN; repeat' split
                                   all_goals omega
  generalize foldN c = f at *
  clear hF
  go_enter Tryz.func130, Tryz.ntmps130
  go_wp2
  go_ret
  exact ⟨rfl, rfl⟩
theorem SimpleFold_long (w : World) (hF : FoldV w) : Calls Tryz.prog 130 #[.int .i32 383] w fun e w' => e = .returned (.int .i32 83) ∧ w' = w := by
  obtain ⟨-, R, oR, cap, h0, hr⟩ := hF
  have r47 : w.cell? ⟨R, oR + 94, none⟩ = some (.int .u16 966) := (hr 47 (by omega)).1
  have r23 : w.cell? ⟨R, oR + 46, none⟩ = some (.int .u16 837) := (hr 23 (by omega)).1
  have r11 : w.cell? ⟨R, oR + 22, none⟩ = some (.int .u16 452) := (hr 11 (by omega)).1
  have r5 : w.cell? ⟨R, oR + 10, none⟩ = some (.int .u16 197) := (hr 5 (by omega)).1
  have r8 : w.cell? ⟨R, oR + 16, none⟩ = some (.int .u16 304) := (hr 8 (by omega)).1
  have r9 : w.cell? ⟨R, oR + 18, none⟩ = some (.int .u16 305) := (hr 9 (by omega)).1
  have r10 : w.cell? ⟨R, oR + 20, none⟩ = some (.int .u16 383) := (hr 10 (by omega)).1
  have r10b : w.cell? ⟨R, oR + 20 + 1, none⟩ = some (.int .u16 83) := (hr 10 (by omega)).2
  clear hr
  go_enter Tryz.func130, Tryz.ntmps130
  go_wp2
  refine wp_loop_rounds 8 ?_
  iterate 7
    rw [rounds_succ]
    go_wp2
  rw [rounds_succ]
  go_wp2
  go_ret
  exact ⟨rfl, rfl⟩
theorem SF (c r : Int) (h : (c = 115 ∧ r = 383) ∨ (c = 383 ∧ r = 83) ∨ (c = 83 ∧ r = 115) ∨ (97 ≤ c ∧ c ≤ 122 ∧ c ≠ 107 ∧ c ≠ 115 ∧ r = c - 32) ∨ (65 ≤ c ∧ c ≤ 90 ∧ r = c + 32)) (w : World) (hF : FoldV w) :
    Calls Tryz.prog 130 #[.int .i32 c] w fun e w' => e = .returned (.int .i32 r) ∧ w' = w := by
  by_cases hc : c = 383
  · obtain rfl : r = 83 := by omega
    subst hc
    exact SimpleFold_long w hF
  · obtain ⟨n, rfl⟩ : ∃ n : Nat, c = n := ⟨c.toNat, by omega⟩
    have := SimpleFold_ascii n (by omega) w hF
    have e : foldN n = r := by unfold foldN; repeat' split
                               all_goals omega
    rw [e] at this
    exact this

theorem dec_facts (s : ByteArray) (pos : Nat) (h : pos < s.size) : 1 ≤ (Utf8.decode s pos).2 ∧ pos + (Utf8.decode s pos).2 ≤ s.size ∧ (Utf8.decode s pos).1 ≤ 1114111 ∧ (128 ≤ (s.get! pos).toNat → 128 ≤ (Utf8.decode s pos).1) ∧ ((Utf8.decode s pos).1 = 383 → (Utf8.decode s pos).2 = 2) := by
  rw [decode_at]
  have hb := (s.get! pos).toNat_lt
  rcases decodeN_shape (s.size - pos) (s.get! pos).toNat (s.get! (pos + 1)).toNat (s.get! (pos + 2)).toNat (s.get! (pos + 3)).toNat with ⟨h1, e⟩ | ⟨h1, h2, h3, h4, e⟩ | ⟨h1, h2, h3, h4, h5, h6, e⟩ | ⟨h1, h2, h3, h4, h5, h6, h7, e⟩ | e
  all_goals
    rw [e]
    dsimp only
    refine ⟨by omega, by omega, by omega, fun _ => by omega, fun _ => by omega⟩
def styB : List UInt8 := [115, 116, 121, 108, 101]
theorem sty_no (l : List UInt8) (i : Nat) (x : UInt8) (h : l[i]? = some x) (hi : i < 5) (hn : lowB x ≠ styB.getD i 0) : styl l = false := by
  unfold styl
  rw [beq_eq_false_iff_ne]
  intro e
  have e2 := congrArg (·[i]?) e
  simp only [List.getElem?_map, List.getElem?_take, if_pos hi, h, Option.map_some] at e2
  apply hn
  have e3 : styB[i]? = some (lowB x) := e2.symm
  simp [List.getD, e3]
theorem sty_yes (l : List UInt8) (h5 : l.length = 5) (h : ∀ i, i < 5 → lowB (l.getD i 0) = styB.getD i 0) : styl l = true := by
  match l, h5 with
  | [a, b, c, d, e], _ =>
    have h0 := h 0 (by omega)
    have h1 := h 1 (by omega)
    have h2 := h 2 (by omega)
    have h3 := h 3 (by omega)
    have h4 := h 4 (by omega)
    simp [styB] at h0 h1 h2 h3 h4
    simp [styl, h0, h1, h2, h3, h4]
theorem lowB_no (x : UInt8) (y : UInt8) (hy : 97 ≤ y.toNat ∧ y.toNat ≤ 122) (h : x.toNat ≠ y.toNat) (h2 : ¬ (65 ≤ x.toNat ∧ x.toNat ≤ 90 ∧ y.toNat = x.toNat + 32)) : lowB x ≠ y := by
  intro e
  unfold lowB at e
  split at e
  · have := congrArg UInt8.toNat e
    simp at this
    omega
  · exact h (congrArg UInt8.toNat e)
theorem lowB_up (x : UInt8) (y : UInt8) (h : 65 ≤ x.toNat ∧ x.toNat ≤ 90 ∧ y.toNat = x.toNat + 32) : lowB x = y := by
  unfold lowB
  rw [if_pos ⟨h.1, h.2.1⟩]
  apply UInt8.toNat_inj.1
  simp
  omega
theorem lowB_eq (y : UInt8) (hy : 97 ≤ y.toNat ∧ y.toNat ≤ 122) : lowB y = y := by
  unfold lowB
  rw [if_neg (by omega)]
theorem styB_r (i : Nat) (y : UInt8) (h : styB[i]? = some y) : i < 5 ∧ 97 ≤ y.toNat ∧ y.toNat ≤ 122 ∧ styB.getD i 0 = y := by
  have hi : i < 5 := by
    have := (List.getElem?_eq_some_iff.1 h).1
    simpa [styB] using this
  refine ⟨hi, ?_⟩
  have : y ∈ styB := List.mem_of_getElem? h
  simp [styB] at this
  refine ⟨?_, ?_, by simp [List.getD, h]⟩
  · rcases this with rfl | rfl | rfl | rfl | rfl <;> decide
  · rcases this with rfl | rfl | rfl | rfl | rfl <;> decide

/-- The loop over bytes. -/
structure EqS (s : ByteArray) (w : World) (i : Value) (wx : World) (k : Nat) : Prop where
  i : i = .int .i64 k
  le : k ≤ 5
  all : ∀ j, j < k → lowB (s.data.toList.getD j 0) = styB.getD j 0
  eq : w = wx
theorem EqS.next {s : ByteArray} {k : Nat} {x y : UInt8} (h : ∀ j, j < k → lowB (s.data.toList.getD j 0) = styB.getD j 0) (hx : s.data.toList[k]? = some x) (hy : styB.getD k 0 = y) (hn : lowB x = y) : ∀ j, j < k + 1 → lowB (s.data.toList.getD j 0) = styB.getD j 0 := by
  intro j hj
  by_cases e : j = k
  · subst e
    rw [hy, ← hn, List.getD, hx, Option.getD_some]
  · exact h j (by omega)
/-- The loop over the code points behind the first one beyond ASCII: the answer is no. -/
structure FlS (s2 : ByteArray) (k : Nat) (w : World) (t1 : Value) (wr : World) (p j : Nat) : Prop where
  t : t1 = .string (bstr (styB.drop j))
  it : wr.heap[w.heap.size]? = some (.stringIter s2 p)
  kp : Kp (fun _ => False) w wr
  hj : j ≤ 5
  hp : p ≤ s2.size
  or : (p = 0 ∧ j = k) ∨ (s2.size - p < 5 - j ∧ 1 ≤ j)
theorem EqualFold_sty (s : ByteArray) (hs : s.size = 5) (w : World) (hF : FoldV w) (hU : Lib.Utf8Tabs 1 2 w) : Calls Tryz.prog 100 #[.string s, .string ⟨#[115, 116, 121, 108, 101]⟩] w fun e w' => e = .returned (.bool (styl s.data.toList)) ∧ Kp (fun _ => False) w w' := by
  have HF := Lib.hid hF
  have HU := Lib.hid hU
  clear hF hU
  obtain ⟨t, ht⟩ : ∃ t, (⟨#[115, 116, 121, 108, 101]⟩ : ByteArray) = t := ⟨_, rfl⟩
  have hts : t.size = 5 := by rw [← ht]; rfl
  have htl : t.data.toList = styB := by rw [← ht]; rfl
  rw [ht]
  have HT := Lib.hid htl
  clear ht htl
  go_enter Tryz.func100, Tryz.ntmps100
  go_wp2
  refine wp_scope_in 0 rfl ?_
  go_wp2
  go_loopw [5] (fun i wx => ∃ k : Nat, EqS s w i wx k) (fun i _ => 5 - (intOf i).toNat)
  case atStart => exact ⟨0, rfl, by omega, fun j hj => by omega, rfl⟩
  case round =>
    obtain ⟨k, hI⟩ := hrel
    obtain ⟨rfl, hk5, hall, rfl⟩ := hI
    have HALL := Lib.hid hall
    clear hall
    by_cases hk : k < 5
    · obtain ⟨x, hx⟩ : ∃ x : UInt8, s[k]'(by omega) = x := ⟨_, rfl⟩
      obtain ⟨y, hy⟩ : ∃ y : UInt8, t[k]'(by omega) = y := ⟨_, rfl⟩
      have hxl : s.data.toList[k]? = some x := by rw [← hx]; exact Lib.data_getElem? s k (by omega)
      have hyl : styB[k]? = some y := by rw [← HT.out, ← hy]; exact Lib.data_getElem? t k (by omega)
      obtain ⟨-, hy0, hy1, hyg⟩ := styB_r k y hyl
      have HXL := Lib.hid hxl
      have HYG := Lib.hid hyg
      clear hxl hyl hyg
      have hxb := x.toNat_lt
      have hor : bits .or .u8 (x.toNat : Int) (y.toNat : Int) = ((x.toNat ||| y.toNat : Nat) : Int) := u8_or_nat _ _ (by omega) (by omega)
      have hks : (k : Int) < (s.size : Int) := by omega
      have hkt : (k : Int) < (t.size : Int) := by omega
      by_cases h128 : 128 ≤ x.toNat
      · have hor2 : (128 : Int) ≤ ((x.toNat ||| y.toNat : Nat) : Int) := by have : x.toNat ≤ x.toNat ||| y.toNat := Nat.left_le_or; omega
        have HNO : Hid (styl s.data.toList = false) := Lib.hid (sty_no _ k x HXL.out hk (by rw [HYG.out]; exact lowB_no x y ⟨hy0, hy1⟩ (by omega) (by omega)))
        obtain ⟨s2, hs2⟩ : ∃ z, s.extract k 5 = z := ⟨_, rfl⟩
        have ht2 : t.extract k 5 = bstr (styB.drop k) := by
          apply ByteArray.ext
          rw [← Array.toList_inj, ByteArray.data_extract, Array.toList_extract, List.extract_eq_take_drop, HT.out, List.take_of_length_le]
          · simp [bstr]
          · simp [styB, hts]
        have hz2 : s2.size = 5 - k := by rw [← hs2]; simp; omega
        have hde : ∀ p, Utf8.decode s2 p = Utf8.decode s (k + p) := fun p => by rw [← hs2, ← hs]; exact tail_decode s k p
        have hgx : (s.get! k).toNat = x.toNat := by
          rw [← hx]
          rw [Utf8W.get!_of_lt s k (by omega)]
        have h0 : FlS s2 k w (.string (bstr (styB.drop k))) (w.iter s2 0) 0 k := ⟨rfl, World.iter_heap w s2 0, (Kp.refl _ w).alloc _, by omega, Nat.zero_le _, .inl ⟨rfl, rfl⟩⟩
        have H0 := Lib.hid h0
        have HDE := Lib.hid hde
        have HGX := Lib.hid hgx
        have HZ2 := Lib.hid hz2
        clear h0 hde hgx HXL HYG HALL hz2
        go_wp2
        apply wp_goto
        refine ⟨rfl, ?_⟩
        clear hx hy hor hor2 hxb
        dsimp only
        go_wp2
        simp only [show decide ((k : Int) < 5) = true by simp; omega]
        go_loopw [1] (fun t1 wr => ∃ p j, FlS s2 k w t1 wr p j) (fun _ wr => s2.size - wr.iterPos w.heap.size)
        case atStart => exact ⟨_, _, H0.out⟩
        case round =>
          obtain ⟨p, j, hI⟩ := hrel
          have q1 := hI.t
          subst q1
          have hj5 := hI.hj
          have hor := hI.or
          have hz2 := HZ2.out
          by_cases hp : p < s2.size
          · have hdf := dec_facts s (k + p) (by omega)
            have hnx := fun ty => Lib.run_next_any_at (P := Tryz.prog) wr w.heap.size s2 p ty hI.it hp
            rw [HDE.out p] at hnx
            have hposi : s2.size - (wr.iterAt w.heap.size s2 (p + (Utf8.decode s (k + p)).2)).iterPos w.heap.size < s2.size - wr.iterPos w.heap.size := by
              have e := Lib.iterAt_heap _ _ s2 _ (p + (Utf8.decode s (k + p)).2) hI.it
              simp only [World.iterPos, e, hI.it]
              omega
            have hit2 := Lib.iterAt_heap _ _ s2 _ (p + (Utf8.decode s (k + p)).2) hI.it
            have hkp2 : Kp (fun _ => False) w (wr.iterAt w.heap.size s2 (p + (Utf8.decode s (k + p)).2)) := hI.kp.iterAt (.inr (Nat.le_refl _)) _ _
            generalize hd : Utf8.decode s (k + p) = d at *
            obtain ⟨c, wd⟩ := d
            simp only at hdf hnx hposi hit2 hkp2
            obtain ⟨f1, f2, f3, f4, f5⟩ := hdf
            have hj : j < 5 := by omega
            have hc0 : p = 0 → j = k → 128 ≤ c := by
              intro e1 e2
              subst e1
              apply f4
              rw [Nat.add_zero, HGX.out]; exact h128
            generalize wr.iterAt w.heap.size s2 (p + wd) = wi at *
            obtain ⟨L, hL⟩ : ∃ L, styB[j]? = some L := ⟨styB[j]'(by simpa [styB] using hj), List.getElem?_eq_getElem _⟩
            obtain ⟨-, L0, L1, -⟩ := styB_r j L hL
            have hdrop : styB.drop j = L :: styB.drop (j + 1) := by
              rw [List.drop_eq_getElem_cons (by simpa [styB] using hj)]
              rw [List.getElem?_eq_getElem (by simpa [styB] using hj)] at hL
              simp only [Option.some.injEq] at hL
              rw [hL]
            have hLs : L.toNat = 115 ∧ j = 0 ∨ L.toNat ≠ 115 ∧ L.toNat ≠ 107 ∧ 1 ≤ j := by
              match j, hj, hL with
              | 0, _, hL => simp [styB] at hL; subst hL; left; decide
              | 1, _, hL => simp [styB] at hL; subst hL; right; decide
              | 2, _, hL => simp [styB] at hL; subst hL; right; decide
              | 3, _, hL => simp [styB] at hL; subst hL; right; decide
              | 4, _, hL => simp [styB] at hL; subst hL; right; decide
            have hzj : (bstr (styB.drop j)).size = 5 - j := by rw [bstr_size]; simp [styB]
            have hext : (bstr (styB.drop j)).extract 1 (5 - j) = bstr (styB.drop (j + 1)) := by
              match j, hj with
              | 0, _ => rfl
              | 1, _ => rfl
              | 2, _ => rfl
              | 3, _ => rfl
              | 4, _ => rfl
            have hDC := Decode_cons (bstr (styB.drop j)) (L.toNat : Int) (styB.drop (j + 1)) wi (hkp2.utf HU.out) (by unfold Scal; omega) (by
              rw [show (bstr (styB.drop j)).data.toList = styB.drop j by simp [bstr], hdrop, encd1 (by omega)]
              have : UInt8.ofNat ((L.toNat : Int) % 256).toNat = L := by
                apply UInt8.toNat_inj.1
                rw [UInt8.toNat_ofNat']
                omega
              rw [this]; rfl)
            rw [show (encd (L.toNat : Int)).length = 1 by rw [encd1 (by omega)]; rfl] at hDC
            have HDC := Lib.hid hDC
            have hsub : ∀ (wx : World), Kp (fun _ => False) wi wx → (L.toNat = 115 → c = 383 ∨ c < 128) → (c < 128 ∨ c = 383) → s2.size - wx.iterPos w.heap.size < s2.size - wr.iterPos w.heap.size ∧ FlS s2 k w (.string (bstr (styB.drop (j + 1)))) wx (p + wd) (j + 1) := by
              intro wx hkx hx1 hx2
              have hlt : w.heap.size < wi.heap.size := (Array.getElem?_eq_some_iff.1 hit2).1
              have hb := hkx.block w.heap.size hlt (fun f => f)
              refine ⟨?_, rfl, by rw [hb]; exact hit2, hkp2.trans hkx, by omega, by omega, ?_⟩
              · have e : wx.iterPos w.heap.size = wi.iterPos w.heap.size := by simp only [World.iterPos, hb]
                rw [e]; exact hposi
              · right
                rcases hor with ⟨o1, o2⟩ | ⟨o1, o2⟩
                · have := hc0 o1 o2
                  have h383 : c = 383 := by omega
                  have := f5 h383
                  omega
                · omega
            have HSUB := Lib.hid hsub
            have HKW := Lib.hid hkp2
            have g5 : ¬ ((5 - j : Nat) : Int) = 0 := by omega
            clear hz2 hI hposi hit2 hd hc0 hsub hDC hL hdrop f4 f5
            go_upto_if 84 with (go_at_call 98; refine HDC.out.mono ?_; rintro e wD ⟨rfl, hkd⟩)
            have HKD := Lib.hid hkd
            have HFD := Lib.hid (FoldV_below HF.out ((HKW.out.trans hkd).below (Nat.le_refl _) (fun _ _ f => f)))
            clear HDC hkd hnx
            by_cases q : (L.toNat : Int) = c
            · have b1 : ((L.toNat : Int) == (c : Int)) = true := by simpa using q
              have HQ := Lib.hid q
              clear q
              go_wp2
              obtain ⟨m1, m2⟩ := HSUB.out _ HKD.out (fun _ => .inr (by have := HQ.out; omega)) (.inl (by have := HQ.out; omega))
              first | exact ⟨⟨_, _, m2⟩, m1⟩ | (refine ⟨?_, m1⟩; (repeat apply Exists.intro); exact ⟨⟨_, _, m2⟩, rfl⟩)
            have b1 : ((L.toNat : Int) == (c : Int)) = false := by simpa using q
            by_cases q1 : c < L.toNat
            · have g1 : ¬ (L.toNat : Int) < (c : Int) := by omega
              have g2 : (L.toNat : Int) < 128 := by omega
              by_cases u1 : 65 ≤ c
              · have g3 : (65 : Int) ≤ (c : Int) := by omega
                by_cases u2 : c ≤ 90
                · have g4 : (c : Int) ≤ 90 := by omega
                  by_cases u3 : L.toNat = c + 32
                  · have g6 : ((L.toNat : Int) == (c : Int) + 32) = true := by simp; omega
                    have HC := Lib.hid (show c < 128 by omega)
                    clear u3 q
                    go_wp2
                    obtain ⟨m1, m2⟩ := HSUB.out _ HKD.out (fun _ => .inr HC.out) (.inl HC.out)
                    first | exact ⟨⟨_, _, m2⟩, m1⟩ | (refine ⟨?_, m1⟩; (repeat apply Exists.intro); exact ⟨⟨_, _, m2⟩, rfl⟩)
                  · have g6 : ((L.toNat : Int) == (c : Int) + 32) = false := by simp; omega
                    go_wp2
                    show bodyPost Tryz.prog Tryz.f100 (fun e w' => e = .returned (.bool (styl s.data.toList)) ∧ Kp (fun _ => False) w w') Exit.ret _ _
                    exact bodyPost_ret (v := .bool false) (by simp [results, Tryz.results100, go_sem]) rfl ⟨by rw [HNO.out], HKW.out.trans HKD.out⟩
                · have g4 : ¬ (c : Int) ≤ 90 := by omega
                  go_wp2
                  show bodyPost Tryz.prog Tryz.f100 (fun e w' => e = .returned (.bool (styl s.data.toList)) ∧ Kp (fun _ => False) w w') Exit.ret _ _
                  exact bodyPost_ret (v := .bool false) (by simp [results, Tryz.results100, go_sem]) rfl ⟨by rw [HNO.out], HKW.out.trans HKD.out⟩
              · have g3 : ¬ (65 : Int) ≤ (c : Int) := by omega
                go_wp2
                show bodyPost Tryz.prog Tryz.f100 (fun e w' => e = .returned (.bool (styl s.data.toList)) ∧ Kp (fun _ => False) w w') Exit.ret _ _
                exact bodyPost_ret (v := .bool false) (by simp [results, Tryz.results100, go_sem]) rfl ⟨by rw [HNO.out], HKW.out.trans HKD.out⟩
            have g1 : (L.toNat : Int) < (c : Int) := by omega
            by_cases q2 : c < 128
            · have g2 : (c : Int) < 128 := by omega
              have g3 : (65 : Int) ≤ (L.toNat : Int) := by omega
              have g4 : ¬ (L.toNat : Int) ≤ 90 := by omega
              go_wp2
              show bodyPost Tryz.prog Tryz.f100 (fun e w' => e = .returned (.bool (styl s.data.toList)) ∧ Kp (fun _ => False) w w') Exit.ret _ _
              exact bodyPost_ret (v := .bool false) (by simp [results, Tryz.results100, go_sem]) rfl ⟨by rw [HNO.out], HKW.out.trans HKD.out⟩
            have g2 : ¬ (c : Int) < 128 := by omega
            rcases hLs with ⟨hL1, hj0⟩ | ⟨hL1, hL2, hj1⟩
            · have n1 : ((383 : Int) == (L.toNat : Int)) = false := by simp; omega
              have hA : (L.toNat : Int) = 115 := by omega
              have HA := Lib.hid hA
              have n4 : ((83 : Int) == (L.toNat : Int)) = false := by simp; omega
              have N6 : Hid (((115 : Int) == (L.toNat : Int)) = true) := Lib.hid (by simp; omega)
              clear hA hL1 hj0
              by_cases q3 : c < 383
              · have n2 : ¬ (383 : Int) < (c : Int) := by omega
                have n3 : ((383 : Int) == (c : Int)) = false := by simp; omega
                go_wp2_with (go_at_call 130; with_reducible refine (SF (L.toNat : Int) 383 (.inl ⟨HA.out, rfl⟩) wD HFD.out).mono ?_; rintro e w9 ⟨rfl, hw9⟩; obtain rfl := hw9.symm)
                refine wp_loop_rounds 1 ?_
                rw [rounds_succ]
                go_wp2
                show bodyPost Tryz.prog Tryz.f100 (fun e w' => e = .returned (.bool (styl s.data.toList)) ∧ Kp (fun _ => False) w w') Exit.ret _ _
                exact bodyPost_ret (v := .bool false) (by simp [results, Tryz.results100, go_sem]) rfl ⟨by rw [HNO.out], HKW.out.trans HKD.out⟩
              by_cases q4 : c = 383
              · have HC := Lib.hid q4
                have n2 : ¬ (383 : Int) < (c : Int) := by omega
                have n3 : ((383 : Int) == (c : Int)) = true := by simp; omega
                clear q4
                go_wp2_with (go_at_call 130; with_reducible refine (SF (L.toNat : Int) 383 (.inl ⟨HA.out, rfl⟩) wD HFD.out).mono ?_; rintro e w9 ⟨rfl, hw9⟩; obtain rfl := hw9.symm)
                refine wp_loop_rounds 1 ?_
                rw [rounds_succ]
                go_wp2
                obtain ⟨m1, m2⟩ := HSUB.out _ HKD.out (fun _ => .inl HC.out) (.inr HC.out)
                first | exact ⟨⟨_, _, m2⟩, m1⟩ | (refine ⟨?_, m1⟩; (repeat apply Exists.intro); exact ⟨⟨_, _, m2⟩, rfl⟩)
              · have n2 : (383 : Int) < (c : Int) := by omega
                have n5 : (83 : Int) < (c : Int) := by omega
                have n7 : ((115 : Int) == (c : Int)) = false := by simp; omega
                go_wp2_with (go_at_call 130; with_reducible refine (SF (L.toNat : Int) 383 (.inl ⟨HA.out, rfl⟩) wD HFD.out).mono ?_; rintro e w9 ⟨rfl, hw9⟩; obtain rfl := hw9.symm)
                refine wp_loop_rounds 3 ?_
                rw [rounds_succ]
                go_wp2_with (go_at_call 130; with_reducible refine (SF 383 83 (by omega) wD HFD.out).mono ?_; rintro e w9 ⟨rfl, hw9⟩; obtain rfl := hw9.symm)
                have n6 := HA.out
                rw [rounds_succ]
                go_wp2_with (go_at_call 130; with_reducible refine (SF 83 115 (by omega) wD HFD.out).mono ?_; rintro e w9 ⟨rfl, hw9⟩; obtain rfl := hw9.symm)
                try (rw [rounds_succ]; go_wp2)
                show bodyPost Tryz.prog Tryz.f100 (fun e w' => e = .returned (.bool (styl s.data.toList)) ∧ Kp (fun _ => False) w w') Exit.ret _ _
                exact bodyPost_ret (v := .bool false) (by simp [results, Tryz.results100, go_sem]) rfl ⟨by rw [HNO.out], HKW.out.trans HKD.out⟩
            · obtain ⟨r, hr⟩ : ∃ r : Int, r = (L.toNat : Int) - 32 := ⟨_, rfl⟩
              have n1 : (r == (L.toNat : Int)) = false := by simp; omega
              have n2 : r < (c : Int) := by omega
              have HR := Lib.hid hr
              have HL0 := Lib.hid (show 97 ≤ L.toNat ∧ L.toNat ≤ 122 ∧ L.toNat ≠ 107 ∧ L.toNat ≠ 115 by omega)
              clear hr
              go_wp2_with (go_at_call 130; with_reducible refine (SF (L.toNat : Int) r (by have := HR.out; have := HL0.out; omega) wD HFD.out).mono ?_; rintro e w9 ⟨rfl, hw9⟩; obtain rfl := hw9.symm)
              refine wp_loop_rounds 2 ?_
              rw [rounds_succ]
              go_wp2_with (go_at_call 130; with_reducible refine (SF r (L.toNat : Int) (by have := HR.out; have := HL0.out; omega) wD HFD.out).mono ?_; rintro e w9 ⟨rfl, hw9⟩; obtain rfl := hw9.symm)
              all_goals (try (rw [rounds_succ]; go_wp2))
              all_goals
                show bodyPost Tryz.prog Tryz.f100 (fun e w' => e = .returned (.bool (styl s.data.toList)) ∧ Kp (fun _ => False) w w') Exit.ret _ _
                exact bodyPost_ret (v := .bool false) (by simp [results, Tryz.results100, go_sem]) rfl ⟨by rw [HNO.out], HKW.out.trans HKD.out⟩
          · have hj : j < 5 := by omega
            have hzj : (bstr (styB.drop j)).size = 5 - j := by rw [bstr_size]; simp [styB]
            have hnx := fun ty => Lib.run_next_end_at (P := Tryz.prog) wr w.heap.size s2 p ty hI.it (by omega)
            have g5 : (((5 - j : Nat) : Int) == 0) = false := by simp; omega
            have HKW := Lib.hid hI.kp
            clear hI hor hz2
            go_wp2
            show bodyPost Tryz.prog Tryz.f100 (fun e w' => e = .returned (.bool (styl s.data.toList)) ∧ Kp (fun _ => False) w w') Exit.ret _ _
            exact bodyPost_ret (v := .bool false) (by simp [results, Tryz.results100, go_sem]) rfl ⟨by rw [HNO.out], HKW.out⟩
      · have hor2 : ¬ (128 : Int) ≤ ((x.toNat ||| y.toNat : Nat) : Int) := by have := Nat.or_lt_two_pow (n := 7) (x := x.toNat) (y := y.toNat) (by omega) (by omega); omega
        go_upto_if 36 with fail
        clear hor hor2
        by_cases hxy : x.toNat = y.toNat
        · have b1 : ((y.toNat : Int) == (x.toNat : Int)) = true := by simp; omega
          have HN : Hid (lowB x = y) := Lib.hid (by rw [UInt8.toNat_inj.1 hxy]; exact lowB_eq y ⟨hy0, hy1⟩)
          clear hxy
          go_wp2
          exact ⟨⟨k + 1, ⟨by simp, by omega, EqS.next HALL.out HXL.out HYG.out HN.out, rfl⟩⟩, by simp [intOf]; omega⟩
        · have b1 : ((y.toNat : Int) == (x.toNat : Int)) = false := by simp; omega
          by_cases hup : 65 ≤ x.toNat ∧ x.toNat ≤ 90 ∧ y.toNat = x.toNat + 32
          · have HN : Hid (lowB x = y) := Lib.hid (lowB_up x y hup)
            obtain ⟨u1, u2, u3⟩ := hup
            have g1 : ¬ (y.toNat : Int) < (x.toNat : Int) := by omega
            have g2 : (65 : Int) ≤ (x.toNat : Int) := by omega
            have g3 : (x.toNat : Int) ≤ 90 := by omega
            have g4 : ((y.toNat : Int) == (x.toNat : Int) + 32) = true := by simp; omega
            go_wp2
            exact ⟨⟨k + 1, ⟨by simp, by omega, EqS.next HALL.out HXL.out HYG.out HN.out, rfl⟩⟩, by simp [intOf]; omega⟩
          · have HNO : Hid (styl s.data.toList = false) := Lib.hid (sty_no _ k x HXL.out hk (by rw [HYG.out]; exact lowB_no x y ⟨hy0, hy1⟩ hxy hup))
            clear HXL HYG HALL
            by_cases hlt : x.toNat < y.toNat
            · have g1 : ¬ (y.toNat : Int) < (x.toNat : Int) := by omega
              by_cases u1 : 65 ≤ x.toNat
              · by_cases u2 : x.toNat ≤ 90
                · have g2 : (65 : Int) ≤ (x.toNat : Int) := by omega
                  have g3 : (x.toNat : Int) ≤ 90 := by omega
                  have g4 : ((y.toNat : Int) == (x.toNat : Int) + 32) = false := by simp; omega
                  go_wp2
                  exact bodyPost_ret (v := .bool false) (by simp [results, Tryz.results100, go_sem]) rfl ⟨by rw [HNO.out], Kp.refl _ _⟩
                · have g2 : (65 : Int) ≤ (x.toNat : Int) := by omega
                  have g3 : ¬ (x.toNat : Int) ≤ 90 := by omega
                  go_wp2
                  exact bodyPost_ret (v := .bool false) (by simp [results, Tryz.results100, go_sem]) rfl ⟨by rw [HNO.out], Kp.refl _ _⟩
              · have g2 : ¬ (65 : Int) ≤ (x.toNat : Int) := by omega
                go_wp2
                exact bodyPost_ret (v := .bool false) (by simp [results, Tryz.results100, go_sem]) rfl ⟨by rw [HNO.out], Kp.refl _ _⟩
            · have g1 : (y.toNat : Int) < (x.toNat : Int) := by omega
              have g2 : (65 : Int) ≤ (y.toNat : Int) := by omega
              have g3 : ¬ (y.toNat : Int) ≤ 90 := by omega
              go_wp2
              exact bodyPost_ret (v := .bool false) (by simp [results, Tryz.results100, go_sem]) rfl ⟨by rw [HNO.out], Kp.refl _ _⟩
    · obtain rfl : k = 5 := by omega
      have HY : Hid (styl s.data.toList = true) := Lib.hid (sty_yes _ (by simpa using hs) HALL.out)
      go_wp2
      show bodyPost Tryz.prog Tryz.f100 (fun e w' => e = .returned (.bool (styl s.data.toList)) ∧ Kp (fun _ => False) w w') Exit.ret _ _
      exact bodyPost_ret (v := .bool true) (by simp [results, Tryz.results100, go_sem]) rfl ⟨by rw [HY.out], Kp.refl _ _⟩
end Go.Proofs.YtkaejhdncohgpaaGreatFmt
