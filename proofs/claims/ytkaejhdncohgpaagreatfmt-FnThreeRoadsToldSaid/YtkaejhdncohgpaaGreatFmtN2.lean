/- The reference's trees: how tokens behave beside others; The laws' guards on nodes that came in: sizes; and nodes as the reference has them; The reference's nodes: which ones can be printed; The reference's trees: IsTree; The reference's trees: Set where whitespace must be. -/
import Derived.Test.YtkaejhdncohgpaaGreatFmtN1
import Derived.Test.YtkaejhdncohgpaaGreatFmtM10
import Derived.Deep.CutBlock
import Derived.Deep.RegionHeld3
import Derived.Laws.AppendOwnNone
import Derived.Laws.OwnMore
/- The reference's trees: how tokens behave beside others. Condition: none. -/
namespace Go.Proofs.YtkaejhdncohgpaaGreatFmt
set_option linter.all false
open Go.RowKit
set_option maxRecDepth 100000
set_option maxHeartbeats 2000000

/-- A number, whichever. -/
def IntR (kd : IntKind) (e : Ending) : Prop := ∃ c : Int, e = .returned (.int kd c)
theorem class_tot (k : Int) (w : World) : Calls Tryz.prog 54 #[.int .i64 k] w fun e w' => IntR .i64 e ∧ w' = w := by
  go_enter Tryz.func54, Tryz.ntmps54
  go_wp2
  all_goals
    go_ret
    exact ⟨⟨_, rfl⟩, rfl⟩
theorem cells4' {w : World} {b t : Nat} {a0 a1 a2 a3 : Value} (h : w.heap[b]? = some (.cells #[a0, a1, a2, a3] t (0, 0))) :
    w.cell? ⟨b, 0, none⟩ = some a0 ∧ w.cell? ⟨b, 1, none⟩ = some a1 ∧ w.cell? ⟨b, 2, none⟩ = some a2 ∧ w.cell? ⟨b, 3, none⟩ = some a3 := by
  simp [World.cell?, h]
theorem signs_tot (k u sp : Int) (s : ByteArray) (w : World) : Calls Tryz.prog 55 #[.agg #[.int .i64 k, .int .i64 u, .string s, .int .i64 sp]] w fun e w' => IntR .u8 e ∧ Kp (fun _ => False) w w' := by
  have HK := Lib.hid ((Kp.refl (fun _ => False) w).alloc (.cells #[.int .i64 k, .int .i64 u, .string s, .int .i64 sp] 54))
  have hb := heap_alloc_new w (.cells #[.int .i64 k, .int .i64 u, .string s, .int .i64 sp] 54)
  have HB := Lib.hid hb
  clear hb
  by_cases h1 : s.size = 1
  · have h0 : 0 < s.size := by omega
    have h2 : ((s.size : Int) == 1) = true := by simp [h1]
    clear h1
    go_enter Tryz.func55, Tryz.ntmps55
    go_wp2_with fail
    generalize w.alloc (.cells #[.int .i64 k, .int .i64 u, .string s, .int .i64 sp] 54) = w1 at *
    obtain ⟨c0, c1, c2, c3⟩ := cells4' HB.out
    go_wp2_with (go_at_call 54; refine (class_tot _ _).mono ?_; rintro e w2 ⟨⟨c, rfl⟩, rfl⟩)
    all_goals
      go_ret
      exact ⟨⟨_, rfl⟩, HK.out⟩
  · have h2 : ((s.size : Int) == 1) = false := by simp; omega
    clear h1
    go_enter Tryz.func55, Tryz.ntmps55
    go_wp2_with fail
    generalize w.alloc (.cells #[.int .i64 k, .int .i64 u, .string s, .int .i64 sp] 54) = w1 at *
    obtain ⟨c0, c1, c2, c3⟩ := cells4' HB.out
    go_wp2_with (go_at_call 54; refine (class_tot _ _).mono ?_; rintro e w2 ⟨⟨c, rfl⟩, rfl⟩)
    all_goals
      go_ret
      exact ⟨⟨_, rfl⟩, HK.out⟩

def ndV (k u d : Int) (s : ByteArray) (b1 b2 : Bool) : Value := .agg #[.int .i64 k, .int .i64 u, .int .i64 d, .string s, .bool b1, .bool b2]
theorem item_any (k u d : Int) (s : ByteArray) (b1 b2 : Bool) (w : World) : Calls Tryz.prog 46 #[ndV k u d s b1 b2] w fun e w' => e = .returned (.agg #[.int .i64 k, .int .i64 u, .string s, .int .i64 0]) ∧ Kp (fun _ => False) w w' := by
  have HK := Lib.hid (((Kp.refl (fun _ => False) w).alloc (.cells #[.int .i64 k, .int .i64 u, .int .i64 d, .string s, .bool b1, .bool b2] 79)).alloc (.cells #[.int .i64 k, .int .i64 u, .string s, .int .i64 0] 54))
  unfold ndV
  go_enter Tryz.func46, Tryz.ntmps46
  go_wp2
  exact bodyPost_ret (v := .agg #[.int .i64 k, .int .i64 u, .string s, .int .i64 0]) (by simp [results, Tryz.results46, go_sem]) rfl ⟨rfl, HK.out⟩

theorem blk_kp {w w' : World} {b : Nat} {x : Obj} (h : w.heap[b]? = some x) (hk : Kp (fun _ => False) w w') : w'.heap[b]? = some x := by
  rw [hk.block b (Array.getElem?_eq_some_iff.1 h).1 (fun f => f)]; exact h
/-- A truth value as a value. -/
def BoolV (t : Value) : Prop := ∃ b : Bool, t = .bool b
theorem Apart_tot (k u sp k2 u2 sp2 : Int) (s s2 : ByteArray) (w : World) : Calls Tryz.prog 45 #[.agg #[.int .i64 k, .int .i64 u, .string s, .int .i64 sp], .agg #[.int .i64 k2, .int .i64 u2, .string s2, .int .i64 sp2]] w fun e w' => BoolR e ∧ Kp (fun _ => False) w w' := by
  have HK := Lib.hid (((Kp.refl (fun _ => False) w).alloc (.cells #[.int .i64 k, .int .i64 u, .string s, .int .i64 sp] 54)).alloc (.cells #[.int .i64 k2, .int .i64 u2, .string s2, .int .i64 sp2] 54))
  have hb2 := heap_alloc_new (w.alloc (.cells #[.int .i64 k, .int .i64 u, .string s, .int .i64 sp] 54)) (.cells #[.int .i64 k2, .int .i64 u2, .string s2, .int .i64 sp2] 54)
  have hb1 : ((w.alloc (.cells #[.int .i64 k, .int .i64 u, .string s, .int .i64 sp] 54)).alloc (.cells #[.int .i64 k2, .int .i64 u2, .string s2, .int .i64 sp2] 54)).heap[w.heap.size]? = some (.cells #[.int .i64 k, .int .i64 u, .string s, .int .i64 sp] 54) := by
    rw [heap_alloc_old _ _ (by simp)]; exact heap_alloc_new _ _
  have hz : (w.alloc (.cells #[.int .i64 k, .int .i64 u, .string s, .int .i64 sp] 54)).heap.size = w.heap.size + 1 := by simp
  rw [hz] at hb2
  have HB1 := Lib.hid hb1
  have HB2 := Lib.hid hb2
  clear hb1 hb2 hz
  go_enter Tryz.func45, Tryz.ntmps45
  go_wp2_with fail
  generalize (w.alloc (.cells #[.int .i64 k, .int .i64 u, .string s, .int .i64 sp] 54)).alloc (.cells #[.int .i64 k2, .int .i64 u2, .string s2, .int .i64 sp2] 54) = w1 at *
  obtain ⟨c0, c1, c2, c3⟩ := cells4' HB1.out
  obtain ⟨d0, d1, d2, d3⟩ := cells4' HB2.out
  go_upto_region 3 with (go_at_call 54; refine (class_tot _ _).mono ?_; rintro e w2 ⟨⟨c, rfl⟩, rfl⟩)
  all_goals first
    | (go_ret; exact ⟨⟨_, rfl⟩, HK.out⟩)
    | skip
  all_goals
    go_upto_block 0 with (go_at_call 55; refine (signs_tot _ _ _ _ _).mono ?_; rintro e w3 ⟨⟨c, rfl⟩, hk⟩; have HB1 := Lib.hid (blk_kp HB1.out hk); have HB2 := Lib.hid (blk_kp HB2.out hk); have HK := Lib.hid (HK.out.trans hk); obtain ⟨c0, c1, c2, c3⟩ := cells4' HB1.out; obtain ⟨d0, d1, d2, d3⟩ := cells4' HB2.out; clear hk)
    refine wp_block (wp_seq_k fun K hK => ?_)
    go_cut [57] from 58 to 67 (fun t wr => BoolV t ∧ w3 = wr)
    case first =>
      go_wp2
      all_goals
        go_meet
        exact ⟨⟨_, rfl⟩, rfl⟩
    case rest =>
      obtain ⟨⟨b, rfl⟩, rfl⟩ := hcut
      cases b
      all_goals
        go_wp2_with (first
          | (go_at_call 54; refine (class_tot _ _).mono ?_; rintro e w2 ⟨⟨c, rfl⟩, rfl⟩)
          | (go_at_call 55; refine (signs_tot _ _ _ _ _).mono ?_; rintro e w3 ⟨⟨c, rfl⟩, hk⟩
             have HB1 := Lib.hid (blk_kp HB1.out hk); have HB2 := Lib.hid (blk_kp HB2.out hk); have HK := Lib.hid (HK.out.trans hk)
             obtain ⟨c0, c1, c2, c3⟩ := cells4' HB1.out; obtain ⟨d0, d1, d2, d3⟩ := cells4' HB2.out; clear hk))
        all_goals
          go_ret
          exact ⟨⟨_, rfl⟩, HK.out⟩
end Go.Proofs.YtkaejhdncohgpaaGreatFmt

/- The laws' guards on nodes that came in: sizes; and nodes as the reference has them. Condition: lengths that a machine can have. -/
namespace Go.Proofs.YtkaejhdncohgpaaGreatFmt
set_option linter.all false
open Go.RowKit
set_option maxRecDepth 100000
set_option maxHeartbeats 2000000

/-- Nodes that came in. -/
def SlN (w : World) (v : Value) (l : List ND) : Prop := ∃ (A : Option Addr) (cap : Nat), v = .slice A l.length cap ∧ (l = [] ∨ ∃ b o, A = some ⟨b, o, none⟩ ∧ ∀ i n, l[i]? = some n → ∀ j u, n.cells[j]? = some u → w.cell? ⟨b, o + i * 6 + j, none⟩ = some u)
theorem SlN.kp {w w' : World} {v : Value} {l : List ND} (h : SlN w v l) (hk : Kp (fun _ => False) w w') : SlN w' v l := by
  obtain ⟨A, cap, rfl, h⟩ := h
  refine ⟨A, cap, rfl, ?_⟩
  rcases h with h | ⟨b, o, hA, hc⟩
  · exact .inl h
  · refine .inr ⟨b, o, hA, fun i n hi j u hu => ?_⟩
    have := hc i n hi j u hu
    have hlt : b < w.heap.size := World.block_lt_of_cell? w _ this
    rw [World.cell?_of_block (w := w) (hk.block b hlt (fun f => f))]; exact this
/-- What a size guard answers. -/
def FitR (l : List ND) (e : Ending) : Prop := ∃ b : Bool, e = .returned (.bool b) ∧ (b = true → l.length ≤ 2147483647 ∧ ∀ n ∈ l, n.tx.length ≤ 2147483647)
theorem fits2_any (n : ND) (w : World) : Calls Tryz.prog 33 #[.agg #[.int .i64 n.k, .int .i64 n.un, .int .i64 n.d, .string (bstr n.tx), .bool n.bf, .bool n.af]] w fun e w' => e = .returned (.bool (decide (n.tx.length ≤ 2147483647))) ∧ Kp (fun _ => False) w w' := by
  have HK := Lib.hid ((Kp.refl (fun _ => False) w).alloc (.cells #[.int .i64 n.k, .int .i64 n.un, .int .i64 n.d, .string (bstr n.tx), .bool n.bf, .bool n.af] 25))
  have hz := bstr_size n.tx
  by_cases h : n.tx.length ≤ 2147483647
  · have hb : (bstr n.tx).size ≤ 2147483647 := by omega
    have HD := Lib.hid (show decide (n.tx.length ≤ 2147483647) = true by simp [h])
    clear h hz
    go_enter Tryz.func33, Tryz.ntmps33
    go_wp2
    go_ret
    exact ⟨by rw [HD.out]; rfl, HK.out⟩
  · have hb : 2147483647 < (bstr n.tx).size := by omega
    have HD := Lib.hid (show decide (n.tx.length ≤ 2147483647) = false by simp; omega)
    clear h hz
    go_enter Tryz.func33, Tryz.ntmps33
    go_wp2
    go_ret
    exact ⟨by rw [HD.out]; rfl, HK.out⟩
/-- The loop over nodes that came in. -/
structure FtI (w : World) (l : List ND) (i : Value) (wr : World) (k : Nat) : Prop where
  i : i = .int .i64 k
  le : k ≤ l.length
  kp : Kp (fun _ => False) w wr
  ok : ∀ j n, j < k → l[j]? = some n → n.tx.length ≤ 2147483647
theorem fits_any (l : List ND) (v : Value) (w : World) (hv : SlN w v l) (hl : l.length ≤ 9223372036854775807) :
    Calls Tryz.prog 18 #[v] w fun e w' => FitR l e ∧ Kp (fun _ => False) w w' := by
  obtain ⟨A, cap, rfl, hA⟩ := hv
  by_cases hb : 2147483647 < l.length
  · clear hA
    go_enter Tryz.func18, Tryz.ntmps18
    go_wp2
    go_ret
    exact ⟨⟨false, rfl, fun h => by cases h⟩, Kp.refl _ _⟩
  · have hbl : l.length ≤ 2147483647 := by omega
    have HA := Lib.hid hA
    have H0 := Lib.hid (show FtI w l (.int .i64 0) w 0 from ⟨rfl, Nat.zero_le _, Kp.refl _ _, fun j n h => absurd h (by omega)⟩)
    clear hA hb hl
    go_enter Tryz.func18, Tryz.ntmps18
    go_wp2
    go_loopw [10] (fun i wr => ∃ k, FtI w l i wr k) (fun i _ => l.length - (intOf i).toNat)
    case atStart => exact ⟨_, H0.out⟩
    case round =>
      obtain ⟨k, hI⟩ := hrel
      have q := hI.i
      subst q
      have hle := hI.le
      have HI := Lib.hid hI
      clear hI
      by_cases hk : k < l.length
      · obtain ⟨n, hn⟩ : ∃ n, l[k]? = some n := ⟨_, List.getElem?_eq_getElem hk⟩
        obtain ⟨b, o, rfl, hc⟩ : ∃ b o, A = some ⟨b, o, none⟩ ∧ ∀ i n, l[i]? = some n → ∀ j u, n.cells[j]? = some u → w.cell? ⟨b, o + i * 6 + j, none⟩ = some u := by
          rcases HA.out with h | h
          · subst h; simp at hk
          · exact h
        have hkc : ∀ j u, n.cells[j]? = some u → wr.cell? ⟨b, o + k * 6 + j, none⟩ = some u := fun j u hu => by
          have := hc k n hn j u hu
          have hlt : b < w.heap.size := World.block_lt_of_cell? w _ this
          rw [World.cell?_of_block (w := w) (HI.out.kp.block b hlt (fun f => f))]; exact this
        have c0 := hkc 0 _ rfl
        have c1 := hkc 1 _ rfl
        have c2 := hkc 2 _ rfl
        have c3 := hkc 3 _ rfl
        have c4 := hkc 4 _ rfl
        have c5 := hkc 5 _ rfl
        simp only [Nat.add_zero] at c0
        have HN := Lib.hid hn
        have HKA := Lib.hid ((Kp.refl (fun _ => False) wr).alloc (.cells #[.int .i64 n.k, .int .i64 n.un, .int .i64 n.d, .string (bstr n.tx), .bool n.bf, .bool n.af] 25))
        have hbl2 := heap_alloc_new wr (.cells #[.int .i64 n.k, .int .i64 n.un, .int .i64 n.d, .string (bstr n.tx), .bool n.bf, .bool n.af] 25)
        clear hkc hc hn
        go_upto_region 6 with fail
        generalize wr.alloc (.cells #[.int .i64 n.k, .int .i64 n.un, .int .i64 n.d, .string (bstr n.tx), .bool n.bf, .bool n.af] 25) = w2 at *
        obtain ⟨d0, d1, d2, d3, d4, d5⟩ := cells6n hbl2
        clear hbl2 c0 c1 c2 c3 c4 c5
        cases hd : decide (n.tx.length ≤ 2147483647)
        · have HD := Lib.hid hd
          clear hd
          go_wp2_with (go_at_call 33; refine (fits2_any n _).mono ?_; rw [HD.out]; rintro e w3 ⟨rfl, hk3⟩)
          go_ret
          exact ⟨⟨false, rfl, fun h => by cases h⟩, (HI.out.kp.trans HKA.out).trans hk3⟩
        · have HD := Lib.hid hd
          clear hd
          go_wp2_with (go_at_call 33; refine (fits2_any n _).mono ?_; rw [HD.out]; rintro e w3 ⟨rfl, hk3⟩)
          refine ⟨⟨k + 1, rfl, hk, (HI.out.kp.trans HKA.out).trans hk3, ?_⟩, ?_⟩
          · intro j n' hj hn'
            by_cases hjk : j = k
            · subst hjk
              rw [HN.out] at hn'
              cases hn'
              simpa using HD.out
            · exact HI.out.ok j n' (by omega) hn'
          · simp [intOf]; omega
      · have hke : k = l.length := by omega
        subst hke
        go_wp2
        go_ret
        refine ⟨⟨true, rfl, fun _ => ⟨hbl, fun n hn => ?_⟩⟩, HI.out.kp⟩
        obtain ⟨j, hj, rfl⟩ := List.getElem_of_mem hn
        exact HI.out.ok j _ hj (List.getElem?_eq_getElem hj)
theorem nodes_gen (l : List ND) (v : Value) (w : World) (hx : SlN w v l) (hl : l.length ≤ 2147483647) :
    Calls Tryz.prog 29 #[v] w fun e w' => ∃ v', e = .returned v' ∧ w'.ownsRow w.heap.size 79 6 v' l.length (l.flatMap ND.cells) ∧ Kp (fun _ => False) w w' := by
  obtain ⟨Ax, cx, rfl, hx⟩ := hx
  have HX := Lib.hid hx
  have h0 : NdI w l (.slice none 0 0) (.int .i64 0) w [] l := ⟨rfl, rfl, Kp.refl _ _, World.ownsRow_nil _ _ _ _⟩
  have H0 := Lib.hid h0
  clear h0 hx
  go_enter Tryz.func29, Tryz.ntmps29
  go_wp2
  go_loopw [3, 8] (fun a i wr => ∃ dn rs, NdI w l a i wr dn rs) (fun _ i _ => l.length - (intOf i).toNat)
  case atStart => exact ⟨_, _, H0.out⟩
  case round =>
    obtain ⟨dn, rs, hI⟩ := hrel
    have q2 := hI.i
    subst q2
    match rs, hI with
    | [], hI =>
      obtain rfl : dn = l := by have := hI.eq; simpa using this
      have HI := Lib.hid hI
      clear hI
      go_wp2
      go_ret
      exact ⟨_, rfl, HI.out.own, HI.out.kp⟩
    | t :: r, hI =>
      have hl2 : dn.length + (r.length + 1) = l.length := by rw [← hI.eq]; simp
      have hi : dn.length < l.length := by omega
      obtain ⟨b, o, rfl, hc0⟩ : ∃ b o, Ax = some ⟨b, o, none⟩ ∧ ∀ i n, l[i]? = some n → ∀ j u, n.cells[j]? = some u → w.cell? ⟨b, o + i * 6 + j, none⟩ = some u := by
        rcases HX.out with h | h
        · subst h; simp at hi
        · exact h
      have hn : l[dn.length]? = some t := by rw [← hI.eq]; simp
      have hc : ∀ j u, t.cells[j]? = some u → wr.cell? ⟨b, o + dn.length * 6 + j, none⟩ = some u := fun j u hu => by
        have := hc0 _ t hn j u hu
        have hlt : b < w.heap.size := World.block_lt_of_cell? w _ this
        rw [World.cell?_of_block (w := w) (hI.kp.block b hlt (fun f => f))]; exact this
      have c0 := hc 0 _ rfl
      have c1 := hc 1 _ rfl
      have c2 := hc 2 _ rfl
      have c3 := hc 3 _ rfl
      have c4 := hc 4 _ rfl
      have c5 := hc 5 _ rfl
      simp only [Nat.add_zero] at c0
      have HI := Lib.hid hI
      clear hI hc hc0 hn hl2
      have hkA : Kp (fun _ => False) wr (wr.alloc (.cells #[.int .i64 t.k, .int .i64 t.un, .int .i64 t.d, .string (bstr t.tx), .bool t.bf, .bool t.af] 25)) := (Kp.refl _ wr).alloc _
      have hbl := heap_alloc_new wr (.cells #[.int .i64 t.k, .int .i64 t.un, .int .i64 t.d, .string (bstr t.tx), .bool t.bf, .bool t.af] 25)
      go_upto_region 5 with fail
      generalize wr.alloc (.cells #[.int .i64 t.k, .int .i64 t.un, .int .i64 t.d, .string (bstr t.tx), .bool t.bf, .bool t.af] 25) = w2 at *
      obtain ⟨d0, d1, d2, d3, d4, d5⟩ := cells6n hbl
      have hbase : w.heap.size ≤ w2.heap.size := Nat.le_trans HI.out.kp.size hkA.size
      have hown := own_kp HI.out.own hkA (fun _ _ f => f)
      have HKA := Lib.hid hkA
      clear hkA hbl c0 c1 c2 c3 c4 c5
      obtain ⟨i0, hi', hz0, hz1, hz2⟩ := info_parts info79
      have HNW := Lib.hid (World.news_of_block (heap_alloc_new w2 (.cells #[.int .i64 t.k, .int .i64 t.un, .int .i64 t.d, .string (bstr t.tx), .bool t.bf, .bool t.af] 79)))
      go_wp2_with (at_builtin; refine wpList_append_own _ rfl (.tmp 12) (.tmp 26) 63 rfl w.heap.size 79 i0 _ 6 48 Tryz.underlying63 hi' hz0 hz1 hz2 rfl (by decide) _ dn.length (dn.flatMap ND.cells) rfl (World.ownsRow.alloc hown _) ⟨w2.heap.size, 0, none⟩ 1 1 t.cells rfl rfl HNW.out ?c1 ?c3 ?c4 ?c5 ?_)
      case c1 => intro x hx; simp [ND.cells] at hx; rcases hx with rfl | rfl | rfl | rfl | rfl | rfl <;> rfl
      case c3 => unfold maxLen; omega
      case c4 => omega
      case c5 => exact Nat.le_trans hbase (by simp)
      intro v' w5 hown' hgrow _
      have hgb : ∀ k, u3.ownBlock = some k → w.heap.size ≤ k := fun k hk => (own_lt hown k hk).1
      have HK5 : Hid (Kp (fun _ => False) w w5) := Lib.hid (((HI.out.kp.trans HKA.out).alloc _).grown hgrow (fun k hk => .inr (hgb k hk)))
      have HO5 := Lib.hid hown'
      clear hown' hgrow hgb d0 d1 d2 d3 d4 d5
      go_wp2
      refine ⟨⟨dn ++ [t], r, by rw [← HI.out.eq]; simp, by simp, HK5.out, ?_⟩, ?_⟩
      · have := HO5.out
        rw [List.flatMap_append, List.length_append]
        simpa using this
      · simp [intOf]; omega
structure BkI (w0 : World) (l : List ND) (a i : Value) (wr : World) (dn rs : List ND) : Prop where
  eq : dn ++ rs = l
  i : i = .int .i64 dn.length
  kp : Kp (fun _ => False) w0 wr
  own : wr.ownsRow w0.heap.size 25 6 a dn.length (dn.flatMap ND.cells)
theorem back_any (l : List ND) (B : Nat) (v : Value) (w : World) (hx : w.ownsRow B 79 6 v l.length (l.flatMap ND.cells)) (hl : l.length ≤ 2147483647) :
    Calls Tryz.prog 35 #[v] w fun e w' => ∃ v', e = .returned v' ∧ w'.ownsRow w.heap.size 25 6 v' l.length (l.flatMap ND.cells) ∧ Kp (fun _ => False) w w' := by
  obtain ⟨Ax, cx, rfl⟩ := own_nil hx rfl
  have HX := Lib.hid hx
  have h0 : BkI w l (.slice none 0 0) (.int .i64 0) w [] l := ⟨rfl, rfl, Kp.refl _ _, World.ownsRow_nil _ _ _ _⟩
  have H0 := Lib.hid h0
  clear h0 hx
  go_enter Tryz.func35, Tryz.ntmps35
  go_wp2
  go_loopw [3, 8] (fun a i wr => ∃ dn rs, BkI w l a i wr dn rs) (fun _ i _ => l.length - (intOf i).toNat)
  case atStart => exact ⟨_, _, H0.out⟩
  case round =>
    obtain ⟨dn, rs, hI⟩ := hrel
    have q2 := hI.i
    subst q2
    match rs, hI with
    | [], hI =>
      obtain rfl : dn = l := by have := hI.eq; simpa using this
      have HI := Lib.hid hI
      clear hI
      go_wp2
      go_ret
      exact ⟨_, rfl, HI.out.own, HI.out.kp⟩
    | t :: r, hI =>
      have hox := own_kp HX.out hI.kp (fun _ _ f => f)
      rw [← hI.eq] at hox
      obtain ⟨g2, cap2, hv2, hB2, hg2, hc⟩ := own_elem hox (fun t => rfl) (by decide)
      have hl2 : dn.length + (r.length + 1) = l.length := by rw [← hI.eq]; simp
      cases hv2
      have hi : dn.length < l.length := by omega
      have c0 := hc 0 _ rfl
      have c1 := hc 1 _ rfl
      have c2 := hc 2 _ rfl
      have c3 := hc 3 _ rfl
      have c4 := hc 4 _ rfl
      have c5 := hc 5 _ rfl
      simp only [Nat.add_zero] at c0
      have HI := Lib.hid hI
      clear hI hc hox hl2
      have hkA : Kp (fun _ => False) wr (wr.alloc (.cells #[.int .i64 t.k, .int .i64 t.un, .int .i64 t.d, .string (bstr t.tx), .bool t.bf, .bool t.af] 79)) := (Kp.refl _ wr).alloc _
      have hbl := heap_alloc_new wr (.cells #[.int .i64 t.k, .int .i64 t.un, .int .i64 t.d, .string (bstr t.tx), .bool t.bf, .bool t.af] 79)
      go_upto_region 5 with fail
      generalize wr.alloc (.cells #[.int .i64 t.k, .int .i64 t.un, .int .i64 t.d, .string (bstr t.tx), .bool t.bf, .bool t.af] 79) = w2 at *
      obtain ⟨d0, d1, d2, d3, d4, d5⟩ := cells6n hbl
      have hbase : w.heap.size ≤ w2.heap.size := Nat.le_trans HI.out.kp.size hkA.size
      have hown := own_kp HI.out.own hkA (fun _ _ f => f)
      have HKA := Lib.hid hkA
      clear hkA hbl c0 c1 c2 c3 c4 c5
      obtain ⟨i0, hi', hz0, hz1, hz2⟩ := info_parts info25
      have HNW := Lib.hid (World.news_of_block (heap_alloc_new w2 (.cells #[.int .i64 t.k, .int .i64 t.un, .int .i64 t.d, .string (bstr t.tx), .bool t.bf, .bool t.af] 25)))
      go_wp2_with (at_builtin; refine wpList_append_own _ rfl (.tmp 12) (.tmp 26) 26 rfl w.heap.size 25 i0 _ 6 48 Tryz.underlying26 hi' hz0 hz1 hz2 rfl (by decide) _ dn.length (dn.flatMap ND.cells) rfl (World.ownsRow.alloc hown _) ⟨w2.heap.size, 0, none⟩ 1 1 t.cells rfl rfl HNW.out ?c1 ?c3 ?c4 ?c5 ?_)
      case c1 => intro x hx; simp [ND.cells] at hx; rcases hx with rfl | rfl | rfl | rfl | rfl | rfl <;> rfl
      case c3 => unfold maxLen; omega
      case c4 => omega
      case c5 => exact Nat.le_trans hbase (by simp)
      intro v' w5 hown' hgrow _
      have hgb : ∀ k, u3.ownBlock = some k → w.heap.size ≤ k := fun k hk => (own_lt hown k hk).1
      have HK5 : Hid (Kp (fun _ => False) w w5) := Lib.hid (((HI.out.kp.trans HKA.out).alloc _).grown hgrow (fun k hk => .inr (hgb k hk)))
      have HO5 := Lib.hid hown'
      clear hown' hgrow hgb d0 d1 d2 d3 d4 d5
      go_wp2
      refine ⟨⟨dn ++ [t], r, by rw [← HI.out.eq]; simp, by simp, HK5.out, ?_⟩, ?_⟩
      · have := HO5.out
        rw [List.flatMap_append, List.length_append]
        simpa using this
      · simp [intOf]; omega
end Go.Proofs.YtkaejhdncohgpaaGreatFmt

/- The reference's nodes: which ones can be printed. Condition: the text has at most 2^31 - 1 bytes. -/
namespace Go.Proofs.YtkaejhdncohgpaaGreatFmt
set_option linter.all false
open Go.RowKit
set_option maxRecDepth 100000
set_option maxHeartbeats 4000000

/-- A node that can be printed, as far as printing asks. -/
def NOk (n : ND) : Prop :=
  (n.k = 29 ∨ n.k = 28 ∨ n.k = 1 ∨ n.k = 27) ∧ nmB n.tx = true
  ∨ n.k = 36 ∧ plB (120 :: n.tx) = true
  ∨ n.k = 26 ∧ 0 < n.un ∧ n.un < n.tx.length ∧ n.un < 60000 ∧ plB (n.tx.take n.un.toNat) = true ∧ nmB (n.tx.drop n.un.toNat) = true
  ∨ (n.k = 30 ∨ n.k = 34 ∨ n.k = 31 ∨ n.k = 32 ∨ n.k = 33 ∨ n.k = 9 ∨ n.k = 10 ∨ n.k = 35 ∨ n.k = 4 ∨ n.k = 5 ∨ n.k = 11 ∨ n.k = 12 ∨ n.k = 13 ∨ n.k = 14 ∨ n.k = 15 ∨ n.k = 16 ∨ n.k = 17 ∨ n.k = 18 ∨ n.k = 19 ∨ n.k = 20 ∨ n.k = 21 ∨ n.k = 22 ∨ n.k = 23 ∨ n.k = 24 ∨ n.k = 25) ∧ plB n.tx = true
def ND.val (n : ND) : Value := .agg #[.int .i64 n.k, .int .i64 n.un, .int .i64 n.d, .string (bstr n.tx), .bool n.bf, .bool n.af]
/-- What IsNode answers. -/
def NdR (n : ND) (e : Ending) : Prop := ∃ b : Bool, e = .returned (.bool b) ∧ (b = true → NOk n)
theorem bstr_l (l : List UInt8) : (bstr l).data.toList = l := by simp [bstr]
theorem isName_l (l : List UInt8) (w : World) (hl : l.length ≤ 2147483647) : Calls Tryz.prog 37 #[.string (bstr l)] w fun e w' => e = .returned (.bool (nmB l)) ∧ w' = w := by
  have h := isName_any (bstr l) w (by rw [bstr_size]; omega)
  rwa [bstr_l] at h
theorem lone_l (l : List UInt8) (kd : Int) (w : World) (hl : l.length ≤ 2147483647) : Calls Tryz.prog 53 #[.string (bstr l), .int .i64 kd] w fun e w' => (∃ b : Bool, e = .returned (.bool b) ∧ Hid (b = true → plB l = true)) ∧ Hid (Kp (fun _ => False) w w') := by
  refine (lone_tot (bstr l) kd w (by rw [bstr_size]; omega)).mono ?_
  rintro e w' ⟨⟨b, h1, h2⟩, h3⟩
  rw [bstr_l] at h2
  exact ⟨⟨b, h1, Lib.hid h2⟩, Lib.hid h3⟩
theorem IsNode_name (n : ND) (w : World) (hl : n.tx.length ≤ 2147483647) (hk : n.k = 29 ∨ n.k = 28 ∨ n.k = 1) : Calls Tryz.prog 43 #[n.val] w fun e w' => NdR n e ∧ Kp (fun _ => False) w w' := by
  have HK := Lib.hid ((Kp.refl (fun _ => False) w).alloc (.cells #[.int .i64 n.k, .int .i64 n.un, .int .i64 n.d, .string (bstr n.tx), .bool n.bf, .bool n.af] 79))
  have hb := heap_alloc_new w (.cells #[.int .i64 n.k, .int .i64 n.un, .int .i64 n.d, .string (bstr n.tx), .bool n.bf, .bool n.af] 79)
  have HB := Lib.hid hb
  clear hb
  unfold ND.val
  have HN := Lib.hid (isName_l n.tx · hl)
  have HO := Lib.hid (show nmB n.tx = true → NOk n from fun h => .inl ⟨by omega, h⟩)
  rcases hk with hk | hk | hk
  all_goals
    have HKK := Lib.hid hk
    clear hk
    go_enter Tryz.func43, Tryz.ntmps43
    go_upto_region 1 with fail
    generalize w.alloc (.cells #[.int .i64 n.k, .int .i64 n.un, .int .i64 n.d, .string (bstr n.tx), .bool n.bf, .bool n.af] 79) = w1 at *
    obtain ⟨c0, c1, c2, c3, c4, c5⟩ := cells6n HB.out
    rw [HKK.out] at c0
    go_wp2_with (go_at_call 37; with_reducible refine (HN.out _).mono ?_; rintro e w2 ⟨rfl, rfl⟩)
    go_ret
    exact ⟨⟨_, rfl, HO.out⟩, HK.out⟩

theorem IsNode_func (n : ND) (w : World) (hl : n.tx.length ≤ 2147483647) (hk : n.k = 27) : Calls Tryz.prog 43 #[n.val] w fun e w' => NdR n e ∧ Kp (fun _ => False) w w' := by
  have HK := Lib.hid ((Kp.refl (fun _ => False) w).alloc (.cells #[.int .i64 n.k, .int .i64 n.un, .int .i64 n.d, .string (bstr n.tx), .bool n.bf, .bool n.af] 79))
  have hb := heap_alloc_new w (.cells #[.int .i64 n.k, .int .i64 n.un, .int .i64 n.d, .string (bstr n.tx), .bool n.bf, .bool n.af] 79)
  have HB := Lib.hid hb
  clear hb
  unfold ND.val
  have HN := Lib.hid (isName_l n.tx · hl)
  have HO := Lib.hid (show nmB n.tx = true → NOk n from fun h => .inl ⟨by omega, h⟩)
  have HKK := Lib.hid hk
  clear hk
  cases hn : nmB n.tx
  all_goals
    have HNM := Lib.hid hn
    clear hn
    go_enter Tryz.func43, Tryz.ntmps43
    go_upto_region 1 with fail
    generalize w.alloc (.cells #[.int .i64 n.k, .int .i64 n.un, .int .i64 n.d, .string (bstr n.tx), .bool n.bf, .bool n.af] 79) = w1 at *
    obtain ⟨c0, c1, c2, c3, c4, c5⟩ := cells6n HB.out
    rw [HKK.out] at c0
    go_wp2_with (first | (go_at_call 37; with_reducible refine (HN.out _).mono ?_; rw [HNM.out]; rintro e w2 ⟨rfl, rfl⟩) | (go_at_call 23; refine (isURL_any _ _).mono ?_; rintro e w3 ⟨rfl, rfl⟩))
    go_ret
    first
      | exact ⟨⟨_, rfl, fun _ => HO.out HNM.out⟩, HK.out⟩
      | exact ⟨⟨false, rfl, fun h => by cases h⟩, HK.out⟩

theorem IsNode_str (n : ND) (w : World) (hl : n.tx.length ≤ 2147483647) (hk : n.k = 36) : Calls Tryz.prog 43 #[n.val] w fun e w' => NdR n e ∧ Kp (fun _ => False) w w' := by
  have HK := Lib.hid ((Kp.refl (fun _ => False) w).alloc (.cells #[.int .i64 n.k, .int .i64 n.un, .int .i64 n.d, .string (bstr n.tx), .bool n.bf, .bool n.af] 79))
  have hb := heap_alloc_new w (.cells #[.int .i64 n.k, .int .i64 n.un, .int .i64 n.d, .string (bstr n.tx), .bool n.bf, .bool n.af] 79)
  have HB := Lib.hid hb
  clear hb
  unfold ND.val
  have hz := bstr_size n.tx
  have hx : (⟨#[120]⟩ : ByteArray) ++ bstr n.tx = bstr (120 :: n.tx) := by
    apply ByteArray.ext; simp [bstr]
  have HP := Lib.hid (IsPlain_any (bstr (120 :: n.tx)) · (by rw [bstr_size, List.length_cons]; omega))
  have HO := Lib.hid (show plB (120 :: n.tx) = true → NOk n from fun h => .inr (.inl ⟨hk, h⟩))
  have HKK := Lib.hid hk
  have hs1 : (⟨#[120]⟩ : ByteArray).size + (bstr n.tx).size ≤ 9223372036854775807 := by show 1 + _ ≤ _; omega
  clear hk hz
  go_enter Tryz.func43, Tryz.ntmps43
  go_upto_region 1 with fail
  generalize w.alloc (.cells #[.int .i64 n.k, .int .i64 n.un, .int .i64 n.d, .string (bstr n.tx), .bool n.bf, .bool n.af] 79) = w1 at *
  obtain ⟨c0, c1, c2, c3, c4, c5⟩ := cells6n HB.out
  rw [HKK.out] at c0
  go_wp2_with (go_at_call 16; with_reducible refine (HP.out _).mono ?_; rw [bstr_l]; rintro e w2 ⟨rfl, rfl⟩)
  go_ret
  exact ⟨⟨_, rfl, HO.out⟩, HK.out⟩

theorem IsNode_num (n : ND) (w : World) (hl : n.tx.length ≤ 2147483647) (hk : n.k = 30 ∨ n.k = 34) : Calls Tryz.prog 43 #[n.val] w fun e w' => NdR n e ∧ Kp (fun _ => False) w w' := by
  have HK := Lib.hid ((Kp.refl (fun _ => False) w).alloc (.cells #[.int .i64 n.k, .int .i64 n.un, .int .i64 n.d, .string (bstr n.tx), .bool n.bf, .bool n.af] 79))
  have hb := heap_alloc_new w (.cells #[.int .i64 n.k, .int .i64 n.un, .int .i64 n.d, .string (bstr n.tx), .bool n.bf, .bool n.af] 79)
  have HB := Lib.hid hb
  clear hb
  unfold ND.val
  have HN := Lib.hid (lone_l n.tx n.k · hl)
  have HO := Lib.hid (show plB n.tx = true → NOk n from fun h => .inr (.inr (.inr ⟨by omega, h⟩)))
  rcases hk with hk | hk
  all_goals
    have HKK := Lib.hid hk
    rw [hk] at HN
    clear hk
    go_enter Tryz.func43, Tryz.ntmps43
    go_upto_region 1 with fail
    generalize w.alloc (.cells #[.int .i64 n.k, .int .i64 n.un, .int .i64 n.d, .string (bstr n.tx), .bool n.bf, .bool n.af] 79) = w1 at *
    obtain ⟨c0, c1, c2, c3, c4, c5⟩ := cells6n HB.out
    rw [HKK.out] at c0
    go_wp2_with (go_at_call 53; with_reducible refine (HN.out _).mono ?_; rintro e w2 ⟨⟨b, rfl, hbp⟩, hk2⟩)
    go_ret
    exact ⟨⟨_, rfl, fun h => HO.out (hbp.out h)⟩, HK.out.trans hk2.out⟩

theorem IsNode_dim (n : ND) (w : World) (hl : n.tx.length ≤ 2147483647) (hk : n.k = 26) : Calls Tryz.prog 43 #[n.val] w fun e w' => NdR n e ∧ Kp (fun _ => False) w w' := by
  have HK := Lib.hid ((Kp.refl (fun _ => False) w).alloc (.cells #[.int .i64 n.k, .int .i64 n.un, .int .i64 n.d, .string (bstr n.tx), .bool n.bf, .bool n.af] 79))
  have hb := heap_alloc_new w (.cells #[.int .i64 n.k, .int .i64 n.un, .int .i64 n.d, .string (bstr n.tx), .bool n.bf, .bool n.af] 79)
  have HB := Lib.hid hb
  clear hb
  unfold ND.val
  have hz := bstr_size n.tx
  have HKK := Lib.hid hk
  by_cases h1 : 0 < n.un
  case neg =>
    clear hk hz
    go_enter Tryz.func43, Tryz.ntmps43
    go_upto_region 1 with fail
    generalize w.alloc (.cells #[.int .i64 n.k, .int .i64 n.un, .int .i64 n.d, .string (bstr n.tx), .bool n.bf, .bool n.af] 79) = w1 at *
    obtain ⟨c0, c1, c2, c3, c4, c5⟩ := cells6n HB.out
    rw [HKK.out] at c0
    go_wp2
    go_ret
    exact ⟨⟨false, rfl, fun h => by cases h⟩, HK.out⟩
  by_cases h2 : n.un < ((bstr n.tx).size : Int)
  case neg =>
    clear hk hz
    go_enter Tryz.func43, Tryz.ntmps43
    go_upto_region 1 with fail
    generalize w.alloc (.cells #[.int .i64 n.k, .int .i64 n.un, .int .i64 n.d, .string (bstr n.tx), .bool n.bf, .bool n.af] 79) = w1 at *
    obtain ⟨c0, c1, c2, c3, c4, c5⟩ := cells6n HB.out
    rw [HKK.out] at c0
    go_wp2
    go_ret
    exact ⟨⟨false, rfl, fun h => by cases h⟩, HK.out⟩
  by_cases h3 : n.un < 60000
  case neg =>
    clear hk hz
    go_enter Tryz.func43, Tryz.ntmps43
    go_upto_region 1 with fail
    generalize w.alloc (.cells #[.int .i64 n.k, .int .i64 n.un, .int .i64 n.d, .string (bstr n.tx), .bool n.bf, .bool n.af] 79) = w1 at *
    obtain ⟨c0, c1, c2, c3, c4, c5⟩ := cells6n HB.out
    rw [HKK.out] at c0
    go_wp2
    go_ret
    exact ⟨⟨false, rfl, fun h => by cases h⟩, HK.out⟩
  obtain ⟨u, hu⟩ : ∃ u : Nat, n.un = u := ⟨n.un.toNat, by omega⟩
  have hu2 : u < (bstr n.tx).size := by omega
  have hu0 : 0 < u := by omega
  have hx1 : (bstr n.tx).extract 0 u = bstr (n.tx.take u) := by
    apply ByteArray.ext; simp [bstr, ByteArray.data_extract]
  have hx2 : (bstr n.tx).extract u (bstr n.tx).size = bstr (n.tx.drop u) := by
    apply ByteArray.ext; simp [bstr, ByteArray.data_extract, ByteArray.size, List.take_of_length_le]
  have HU := Lib.hid hu
  have HO := Lib.hid (show plB (n.tx.take u) = true → nmB (n.tx.drop u) = true → NOk n from fun a b => .inr (.inr (.inl ⟨hk, h1, by omega, h3, by rw [hu]; exact a, by rw [hu]; exact b⟩)))
  have HN := Lib.hid (isName_l (n.tx.drop u) · (by rw [List.length_drop]; omega))
  have HL := Lib.hid (lone_l (n.tx.take u) 30 · (by rw [List.length_take]; omega))
  clear hk hz h1 h2
  rw [hu] at h3
  have h3' : u < 60000 := by omega
  clear hu
  go_enter Tryz.func43, Tryz.ntmps43
  go_upto_region 1 with fail
  generalize w.alloc (.cells #[.int .i64 n.k, .int .i64 n.un, .int .i64 n.d, .string (bstr n.tx), .bool n.bf, .bool n.af] 79) = w1 at *
  obtain ⟨c0, c1, c2, c3, c4, c5⟩ := cells6n HB.out
  rw [HKK.out] at c0
  rw [HU.out] at c1
  go_wp2_with (first
    | (go_at_call 53; with_reducible refine (HL.out _).mono ?_; rintro e w2 ⟨⟨b, rfl, hbp⟩, hk2⟩
       have HB := Lib.hid (blk_kp HB.out hk2.out); have HK := Lib.hid (HK.out.trans hk2.out)
       obtain ⟨c0, c1, c2, c3, c4, c5⟩ := cells6n HB.out; rw [HU.out] at c1; rw [HKK.out] at c0; dsimp only; cases b)
    | (go_at_call 37; with_reducible refine (HN.out _).mono ?_; rintro e w3 ⟨rfl, rfl⟩))
  all_goals
    go_ret
    first
      | exact ⟨⟨false, rfl, fun h => by cases h⟩, HK.out⟩
      | exact ⟨⟨nmB (n.tx.drop u), rfl, fun h => HO.out (hbp.out trivial) h⟩, HK.out⟩

theorem IsNode_sign (n : ND) (w : World) (hl : n.tx.length ≤ 2147483647) (hk : n.k = 31 ∨ n.k = 32 ∨ n.k = 33 ∨ n.k = 9 ∨ n.k = 10 ∨ n.k = 35 ∨ n.k = 4 ∨ n.k = 5 ∨ n.k = 11 ∨ n.k = 12 ∨ n.k = 13 ∨ n.k = 14 ∨ n.k = 15 ∨ n.k = 16 ∨ n.k = 17 ∨ n.k = 18 ∨ n.k = 19 ∨ n.k = 20 ∨ n.k = 21 ∨ n.k = 22 ∨ n.k = 23 ∨ n.k = 24 ∨ n.k = 25) : Calls Tryz.prog 43 #[n.val] w fun e w' => NdR n e ∧ Kp (fun _ => False) w w' := by
  have HK := Lib.hid ((Kp.refl (fun _ => False) w).alloc (.cells #[.int .i64 n.k, .int .i64 n.un, .int .i64 n.d, .string (bstr n.tx), .bool n.bf, .bool n.af] 79))
  have hb := heap_alloc_new w (.cells #[.int .i64 n.k, .int .i64 n.un, .int .i64 n.d, .string (bstr n.tx), .bool n.bf, .bool n.af] 79)
  have HB := Lib.hid hb
  clear hb
  unfold ND.val
  have HN := Lib.hid (lone_l n.tx n.k · hl)
  have HO := Lib.hid (show plB n.tx = true → NOk n from fun h => .inr (.inr (.inr ⟨.inr (.inr hk), h⟩)))
  rcases hk with hk | hk | hk | hk | hk | hk | hk | hk | hk | hk | hk | hk | hk | hk | hk | hk | hk | hk | hk | hk | hk | hk | hk
  all_goals
    have HKK := Lib.hid hk
    rw [hk] at HN
    clear hk
    go_enter Tryz.func43, Tryz.ntmps43
    go_upto_region 1 with fail
    generalize w.alloc (.cells #[.int .i64 n.k, .int .i64 n.un, .int .i64 n.d, .string (bstr n.tx), .bool n.bf, .bool n.af] 79) = w1 at *
    obtain ⟨c0, c1, c2, c3, c4, c5⟩ := cells6n HB.out
    rw [HKK.out] at c0
    go_wp2_with (go_at_call 53; with_reducible refine (HN.out _).mono ?_; rintro e w2 ⟨⟨b, rfl, hbp⟩, hk2⟩)
    all_goals
      go_ret
      first
        | exact ⟨⟨_, rfl, fun h => HO.out (hbp.out (by simp only [Bool.and_eq_true] at h; exact h.2))⟩, HK.out.trans hk2.out⟩
        | exact ⟨⟨false, rfl, fun h => by cases h⟩, HK.out⟩

theorem IsNode_none (n : ND) (w : World) (hl : n.tx.length ≤ 2147483647) (h29 : n.k ≠ 29) (h28 : n.k ≠ 28) (h1 : n.k ≠ 1) (h27 : n.k ≠ 27) (h36 : n.k ≠ 36) (h30 : n.k ≠ 30) (h34 : n.k ≠ 34) (h26 : n.k ≠ 26) (h31 : n.k ≠ 31) (h32 : n.k ≠ 32) (h33 : n.k ≠ 33) (h9 : n.k ≠ 9) (h10 : n.k ≠ 10) (h35 : n.k ≠ 35) (h4 : n.k ≠ 4) (h5 : n.k ≠ 5) (h11 : n.k ≠ 11) (h12 : n.k ≠ 12) (h13 : n.k ≠ 13) (h14 : n.k ≠ 14) (h15 : n.k ≠ 15) (h16 : n.k ≠ 16) (h17 : n.k ≠ 17) (h18 : n.k ≠ 18) (h19 : n.k ≠ 19) (h20 : n.k ≠ 20) (h21 : n.k ≠ 21) (h22 : n.k ≠ 22) (h23 : n.k ≠ 23) (h24 : n.k ≠ 24) (h25 : n.k ≠ 25) : Calls Tryz.prog 43 #[n.val] w fun e w' => NdR n e ∧ Kp (fun _ => False) w w' := by
  have HK := Lib.hid ((Kp.refl (fun _ => False) w).alloc (.cells #[.int .i64 n.k, .int .i64 n.un, .int .i64 n.d, .string (bstr n.tx), .bool n.bf, .bool n.af] 79))
  have hb := heap_alloc_new w (.cells #[.int .i64 n.k, .int .i64 n.un, .int .i64 n.d, .string (bstr n.tx), .bool n.bf, .bool n.af] 79)
  have HB := Lib.hid hb
  clear hb
  unfold ND.val
  have b29 : (n.k == 29) = false := by simp [h29]
  have b28 : (n.k == 28) = false := by simp [h28]
  have b1 : (n.k == 1) = false := by simp [h1]
  have b27 : (n.k == 27) = false := by simp [h27]
  have b36 : (n.k == 36) = false := by simp [h36]
  have b30 : (n.k == 30) = false := by simp [h30]
  have b34 : (n.k == 34) = false := by simp [h34]
  have b26 : (n.k == 26) = false := by simp [h26]
  have b31 : (n.k == 31) = false := by simp [h31]
  have b32 : (n.k == 32) = false := by simp [h32]
  have b33 : (n.k == 33) = false := by simp [h33]
  have b9 : (n.k == 9) = false := by simp [h9]
  have b10 : (n.k == 10) = false := by simp [h10]
  have b35 : (n.k == 35) = false := by simp [h35]
  have b4 : (n.k == 4) = false := by simp [h4]
  have b5 : (n.k == 5) = false := by simp [h5]
  have b11 : (n.k == 11) = false := by simp [h11]
  have b12 : (n.k == 12) = false := by simp [h12]
  have b13 : (n.k == 13) = false := by simp [h13]
  have b14 : (n.k == 14) = false := by simp [h14]
  have b15 : (n.k == 15) = false := by simp [h15]
  have b16 : (n.k == 16) = false := by simp [h16]
  have b17 : (n.k == 17) = false := by simp [h17]
  have b18 : (n.k == 18) = false := by simp [h18]
  have b19 : (n.k == 19) = false := by simp [h19]
  have b20 : (n.k == 20) = false := by simp [h20]
  have b21 : (n.k == 21) = false := by simp [h21]
  have b22 : (n.k == 22) = false := by simp [h22]
  have b23 : (n.k == 23) = false := by simp [h23]
  have b24 : (n.k == 24) = false := by simp [h24]
  have b25 : (n.k == 25) = false := by simp [h25]
  clear h29 h28 h1 h27 h36 h30 h34 h26 h31 h32 h33 h9 h10 h35 h4 h5 h11 h12 h13 h14 h15 h16 h17 h18 h19 h20 h21 h22 h23 h24 h25
  have HKK := Lib.hid (rfl : n.k = n.k)
  go_enter Tryz.func43, Tryz.ntmps43
  go_upto_region 1 with fail
  generalize w.alloc (.cells #[.int .i64 n.k, .int .i64 n.un, .int .i64 n.d, .string (bstr n.tx), .bool n.bf, .bool n.af] 79) = w1 at *
  obtain ⟨c0, c1, c2, c3, c4, c5⟩ := cells6n HB.out
  rw [HKK.out] at c0
  go_wp2
  go_ret
  exact ⟨⟨false, rfl, fun h => by cases h⟩, HK.out⟩

theorem IsNode_any (n : ND) (w : World) (hl : n.tx.length ≤ 2147483647) : Calls Tryz.prog 43 #[n.val] w fun e w' => NdR n e ∧ Kp (fun _ => False) w w' := by
  by_cases h29 : n.k = 29
  · exact IsNode_name n w hl (by omega)
  by_cases h28 : n.k = 28
  · exact IsNode_name n w hl (by omega)
  by_cases h1 : n.k = 1
  · exact IsNode_name n w hl (by omega)
  by_cases h27 : n.k = 27
  · exact IsNode_func n w hl h27
  by_cases h36 : n.k = 36
  · exact IsNode_str n w hl h36
  by_cases h30 : n.k = 30
  · exact IsNode_num n w hl (by omega)
  by_cases h34 : n.k = 34
  · exact IsNode_num n w hl (by omega)
  by_cases h26 : n.k = 26
  · exact IsNode_dim n w hl h26
  by_cases h31 : n.k = 31
  · exact IsNode_sign n w hl (by omega)
  by_cases h32 : n.k = 32
  · exact IsNode_sign n w hl (by omega)
  by_cases h33 : n.k = 33
  · exact IsNode_sign n w hl (by omega)
  by_cases h9 : n.k = 9
  · exact IsNode_sign n w hl (by omega)
  by_cases h10 : n.k = 10
  · exact IsNode_sign n w hl (by omega)
  by_cases h35 : n.k = 35
  · exact IsNode_sign n w hl (by omega)
  by_cases h4 : n.k = 4
  · exact IsNode_sign n w hl (by omega)
  by_cases h5 : n.k = 5
  · exact IsNode_sign n w hl (by omega)
  by_cases h11 : n.k = 11
  · exact IsNode_sign n w hl (by omega)
  by_cases h12 : n.k = 12
  · exact IsNode_sign n w hl (by omega)
  by_cases h13 : n.k = 13
  · exact IsNode_sign n w hl (by omega)
  by_cases h14 : n.k = 14
  · exact IsNode_sign n w hl (by omega)
  by_cases h15 : n.k = 15
  · exact IsNode_sign n w hl (by omega)
  by_cases h16 : n.k = 16
  · exact IsNode_sign n w hl (by omega)
  by_cases h17 : n.k = 17
  · exact IsNode_sign n w hl (by omega)
  by_cases h18 : n.k = 18
  · exact IsNode_sign n w hl (by omega)
  by_cases h19 : n.k = 19
  · exact IsNode_sign n w hl (by omega)
  by_cases h20 : n.k = 20
  · exact IsNode_sign n w hl (by omega)
  by_cases h21 : n.k = 21
  · exact IsNode_sign n w hl (by omega)
  by_cases h22 : n.k = 22
  · exact IsNode_sign n w hl (by omega)
  by_cases h23 : n.k = 23
  · exact IsNode_sign n w hl (by omega)
  by_cases h24 : n.k = 24
  · exact IsNode_sign n w hl (by omega)
  by_cases h25 : n.k = 25
  · exact IsNode_sign n w hl (by omega)
  exact IsNode_none n w hl h29 h28 h1 h27 h36 h30 h34 h26 h31 h32 h33 h9 h10 h35 h4 h5 h11 h12 h13 h14 h15 h16 h17 h18 h19 h20 h21 h22 h23 h24 h25

end Go.Proofs.YtkaejhdncohgpaaGreatFmt

/- The reference's trees: IsTree. Condition: lengths that a machine can have. -/
namespace Go.Proofs.YtkaejhdncohgpaaGreatFmt
set_option linter.all false
open Go.RowKit
set_option maxRecDepth 100000
set_option maxHeartbeats 4000000

/-- A pair of a number and a truth value, whichever. -/
def OpR (e : Ending) : Prop := ∃ (k : Int) (b : Bool), e = .returned (.tuple #[.int .i64 k, .bool b])
theorem Opens_tot (k : Int) (w : World) : Calls Tryz.prog 42 #[.int .i64 k] w fun e w' => OpR e ∧ w' = w := by
  go_enter Tryz.func42, Tryz.ntmps42
  go_wp2
  all_goals
    go_ret2
    exact ⟨⟨_, _, rfl⟩, rfl⟩
/-- What IsTree answers. -/
def TrR (l : List ND) (e : Ending) : Prop := ∃ b : Bool, e = .returned (.bool b) ∧ (b = true → ∀ n ∈ l, NOk n ∧ 0 ≤ n.d)
structure TrI (w : World) (l : List ND) (m i : Value) (wr : World) (dn rs : List ND) (mo : Int) : Prop where
  eq : dn ++ rs = l
  i : i = .int .i64 dn.length
  m : m = .int .i64 mo
  m0 : 0 ≤ mo
  m1 : mo ≤ dn.length
  kp : Kp (fun _ => False) w wr
  ok : ∀ n ∈ dn, NOk n ∧ 0 ≤ n.d
theorem IsTree_any (l : List ND) (B : Nat) (v : Value) (w : World) (hx : w.ownsRow B 79 6 v l.length (l.flatMap ND.cells)) (hl : l.length ≤ 2147483647) (ht : ∀ n ∈ l, n.tx.length ≤ 2147483647) :
    Calls Tryz.prog 34 #[v] w fun e w' => TrR l e ∧ Kp (fun _ => False) w w' := by
  obtain ⟨Ax, cx, rfl⟩ := own_nil hx rfl
  have HX := Lib.hid hx
  have HT := Lib.hid ht
  have H0 := Lib.hid (show TrI w l (.int .i64 0) (.int .i64 0) w [] l 0 from ⟨rfl, rfl, rfl, Int.le_refl _, by simp, Kp.refl _ _, fun n h => by cases h⟩)
  clear hx ht
  go_enter Tryz.func34, Tryz.ntmps34
  go_wp2
  go_loopw [3, 10] (fun m i wr => ∃ dn rs mo, TrI w l m i wr dn rs mo) (fun _ i _ => l.length - (intOf i).toNat)
  case atStart => exact ⟨_, _, _, H0.out⟩
  case round =>
    obtain ⟨dn, rs, mo, hI⟩ := hrel
    have q2 := hI.i
    have q3 := hI.m
    subst q2
    subst q3
    match rs, hI with
    | [], hI =>
      obtain rfl : dn = l := by have := hI.eq; simpa using this
      have HI := Lib.hid hI
      clear hI
      go_wp2
      go_ret
      exact ⟨⟨true, rfl, fun _ => HI.out.ok⟩, HI.out.kp⟩
    | t :: r, hI =>
      have hox := own_kp HX.out hI.kp (fun _ _ f => f)
      rw [← hI.eq] at hox
      obtain ⟨g2, cap2, hv2, hB2, hg2, hc⟩ := own_elem hox (fun t => rfl) (by decide)
      have hl2 : dn.length + (r.length + 1) = l.length := by rw [← hI.eq]; simp
      cases hv2
      have hi : dn.length < l.length := by omega
      have c0 := hc 0 _ rfl
      have c1 := hc 1 _ rfl
      have c2 := hc 2 _ rfl
      have c3 := hc 3 _ rfl
      have c4 := hc 4 _ rfl
      have c5 := hc 5 _ rfl
      simp only [Nat.add_zero] at c0
      have HTT := Lib.hid (HT.out t (by rw [← hI.eq]; simp))
      have HM0 := Lib.hid hI.m0
      have HM1 := Lib.hid hI.m1
      have HI := Lib.hid hI
      clear hI hc hox hl2
      have hkA : Kp (fun _ => False) wr (wr.alloc (.cells #[.int .i64 t.k, .int .i64 t.un, .int .i64 t.d, .string (bstr t.tx), .bool t.bf, .bool t.af] 79)) := (Kp.refl _ wr).alloc _
      have hbl := heap_alloc_new wr (.cells #[.int .i64 t.k, .int .i64 t.un, .int .i64 t.d, .string (bstr t.tx), .bool t.bf, .bool t.af] 79)
      go_upto_region 5 with fail
      generalize wr.alloc (.cells #[.int .i64 t.k, .int .i64 t.un, .int .i64 t.d, .string (bstr t.tx), .bool t.bf, .bool t.af] 79) = w2 at *
      have HKA := Lib.hid hkA
      have HB := Lib.hid hbl
      obtain ⟨d0, d1, d2, d3, d4, d5⟩ := cells6n hbl
      clear hkA hbl c0 c1 c2 c3 c4 c5
      by_cases h1 : t.d < 0
      · go_wp2
        go_ret
        exact ⟨⟨false, rfl, fun h => by cases h⟩, HI.out.kp.trans HKA.out⟩
      by_cases h2 : mo < t.d
      · go_wp2
        go_ret
        exact ⟨⟨false, rfl, fun h => by cases h⟩, HI.out.kp.trans HKA.out⟩
      have hm : t.d + 1 ≤ 2147483648 := by have := HM1.out; omega
      have hd0 : 0 ≤ t.d := by omega
      have HD := Lib.hid (show t.d + 1 ≤ dn.length + 1 ∧ t.d ≤ dn.length + 1 by have := HM1.out; omega)
      have HN := Lib.hid (IsNode_any t w2 HTT.out)
      unfold ND.val at HN
      go_wp2_with fail
      refine HN.out.mono ?_; rintro e w3 ⟨⟨b, rfl, hbn⟩, hk3⟩
      have HB3 := Lib.hid (blk_kp HB.out hk3); have HK3 := Lib.hid (HKA.out.trans hk3); have HBN := Lib.hid hbn
      obtain ⟨d0, d1, d2, d3, d4, d5⟩ := cells6n HB3.out; clear hk3 hbn; dsimp only
      cases b
      · go_wp2
        go_ret
        exact ⟨⟨false, rfl, fun h => by cases h⟩, HI.out.kp.trans HK3.out⟩
      go_wp2_with (go_at_call 42; refine (Opens_tot _ _).mono ?_; rintro e w4 ⟨⟨kc, bc, rfl⟩, rfl⟩; dsimp only; cases bc)
      all_goals
        refine ⟨⟨dn ++ [t], r, _, by rw [← HI.out.eq]; simp, by simp, rfl, by omega, by have := HD.out; simp; omega, HI.out.kp.trans HK3.out, ?_⟩, ?_⟩
        · intro n hn
          rcases List.mem_append.1 hn with hn | hn
          · exact HI.out.ok n hn
          · obtain rfl : n = t := by simpa using hn
            exact ⟨HBN.out rfl, hd0⟩
        · simp [intOf]; omega

theorem own_at {w : World} {B e c : Nat} {A : Option Addr} {l : List ND} (h : w.ownsRow B e 6 (.slice A l.length c) l.length (l.flatMap ND.cells)) {i : Nat} {n : ND} (hn : l[i]? = some n) : ∃ g, A = some ⟨g, 0, none⟩ ∧ ∀ j u, n.cells[j]? = some u → w.cell? ⟨g, i * 6 + j, none⟩ = some u := by
  have hi : i < l.length := (List.getElem?_eq_some_iff.1 hn).1
  have hs : l = l.take i ++ n :: l.drop (i + 1) := by
    have h2 : l[i] = n := (List.getElem?_eq_some_iff.1 hn).2
    rw [← h2, ← List.drop_eq_getElem_cons hi, List.take_append_drop]
  have hlt : (l.take i).length = i := by simp; omega
  rw [hs] at h
  obtain ⟨g2, cap2, hv2, -, -, hc⟩ := own_elem h (fun t => rfl) (by decide)
  rw [hlt] at hc
  injection hv2 with hA _ _
  exact ⟨g2, hA, hc⟩
/-- What follower answers. -/
def FoR (l : List ND) (e : Ending) : Prop := ∃ j : Int, e = .returned (.int .i64 j) ∧ (j < 0 ∨ ∃ q : Nat, j = q ∧ q < l.length)
theorem follower_any (l : List ND) (B : Nat) (v : Value) (i : Nat) (w : World) (hx : w.ownsRow B 79 6 v l.length (l.flatMap ND.cells)) (hl : l.length ≤ 2147483647) (hi : i < l.length) :
    Calls Tryz.prog 44 #[v, .int .i64 i] w fun e w' => FoR l e ∧ Hid (Kp (fun _ => False) w w') := by
  obtain ⟨Ax, cx, rfl⟩ := own_nil hx rfl
  obtain ⟨n, hn⟩ : ∃ n, l[i]? = some n := ⟨_, List.getElem?_eq_getElem hi⟩
  obtain ⟨g, rfl, hc⟩ := own_at hx hn
  have c0 := hc 0 _ rfl
  have c2 := hc 2 _ rfl
  simp only [Nat.add_zero] at c0
  by_cases h1 : i + 1 < l.length
  · obtain ⟨n1, hn1⟩ : ∃ n, l[i + 1]? = some n := ⟨_, List.getElem?_eq_getElem h1⟩
    obtain ⟨g', hg', hc1⟩ := own_at hx hn1
    cases hg'
    have e2 := hc1 2 _ rfl
    have HR := Lib.hid (show i + 1 < l.length from h1)
    have hi1 : ((i : Int) + 1) < (l.length : Int) := by omega
    have hi2 : (0 : Int) ≤ (i : Int) + 1 := by omega
    clear hc hc1 hn hn1 hx
    go_enter Tryz.func44, Tryz.ntmps44
    have HEQ : Hid (((i : Int) + 1 < 0 ∨ ∃ q : Nat, (i : Int) + 1 = q ∧ q < l.length)) := Lib.hid (.inr ⟨i + 1, by omega, h1⟩)
    cases hd : (n1.d == n.d)
    all_goals
      go_wp2_with (go_at_call 42; refine (Opens_tot _ _).mono ?_; rintro e w4 ⟨⟨kc, bc, rfl⟩, rfl⟩; dsimp only; cases bc)
      · go_quiet (fail)
        go_wp2
        go_ret
        first
          | exact ⟨⟨_, rfl, HEQ.out⟩, Lib.hid ((Kp.refl _ _).drewN _)⟩
          | exact ⟨⟨-1, rfl, .inl (by decide)⟩, Lib.hid ((Kp.refl _ _).drewN _)⟩
      · go_ret
        exact ⟨⟨-1, rfl, .inl (by decide)⟩, Lib.hid (Kp.refl _ _)⟩
  · have hle : l.length = i + 1 := by omega
    have hi1 : ((l.length : Nat) : Int) = (i : Int) + 1 := by omega
    have hi2 : decide (((i : Int) + 1) < (l.length : Int)) = false := by simp; omega
    have hi3 : decide (((i : Int) + 1) < ((i : Int) + 1)) = false := by simp
    clear hc hn hx
    go_enter Tryz.func44, Tryz.ntmps44
    go_wp2_with (go_at_call 42; refine (Opens_tot _ _).mono ?_; rintro e w4 ⟨⟨kc, bc, rfl⟩, rfl⟩; dsimp only; cases bc)
    · go_quiet (fail)
      go_wp2
      go_ret
      exact ⟨⟨-1, rfl, .inl (by decide)⟩, Lib.hid ((Kp.refl _ _).drewN _)⟩
    · go_ret
      exact ⟨⟨-1, rfl, .inl (by decide)⟩, Lib.hid (Kp.refl _ _)⟩
end Go.Proofs.YtkaejhdncohgpaaGreatFmt

/- The reference's trees: Set where whitespace must be. Condition: lengths that a machine can have. -/
namespace Go.Proofs.YtkaejhdncohgpaaGreatFmt
set_option linter.all false
open Go.RowKit
set_option maxRecDepth 100000
set_option maxHeartbeats 4000000

/-- Nodes alike but for the whitespace behind them. -/
def LikeN (l l' : List ND) : Prop := l.map (fun n => { n with af := false }) = l'.map (fun n => { n with af := false })
theorem LikeN.len {l l' : List ND} (h : LikeN l l') : l'.length = l.length := by
  have := congrArg List.length h
  simpa using this.symm
/-- The loop of Set. -/
structure SeI (w : World) (l : List ND) (v i : Value) (wr : World) (k : Nat) (l' : List ND) : Prop where
  i : i = .int .i64 k
  le : k ≤ l.length
  kp : Kp (fun _ => False) w wr
  like : LikeN l l'
  own : wr.ownsRow w.heap.size 79 6 v l'.length (l'.flatMap ND.cells)
/-- What Set leaves. -/
def SetR (w : World) (l : List ND) (e : Ending) (w' : World) : Prop := ∃ v l', e = .returned v ∧ LikeN l l' ∧ w'.ownsRow w.heap.size 79 6 v l'.length (l'.flatMap ND.cells)
theorem cells_len (l : List ND) : (l.flatMap ND.cells).length = l.length * 6 := by
  induction l with
  | nil => rfl
  | cons t l ih => simp only [List.flatMap_cons, List.length_append, List.length_cons, ih]; simp [ND.cells]; omega
theorem cells_one (l : List ND) : ∀ u ∈ l.flatMap ND.cells, u.oneCell' = true := by
  intro u hu
  obtain ⟨n, _, hn⟩ := List.mem_flatMap.1 hu
  simp [ND.cells] at hn
  rcases hn with rfl | rfl | rfl | rfl | rfl | rfl <;> rfl
theorem cellF_kp {w w' : World} {b i : Nat} {u : Value} (hk : Kp (fun _ => False) w w') (h : w.cell? ⟨b, i, none⟩ = some u) : w'.cell? ⟨b, i, none⟩ = some u := by
  have hlt : b < w.heap.size := World.block_lt_of_cell? w _ h
  rw [World.cell?_of_block (w := w) (hk.block b hlt (fun f => f))]; exact h
theorem own_froz {w : World} {B e z n : Nat} {v : Value} {xs : List Value} (h : w.ownsRow B e z v n xs) {g : Nat} (hg : v.ownBlock = some g) (i : Nat) : w.frozen? ⟨g, i, none⟩ = false := by
  obtain ⟨-, -, cur, hc⟩ := own_lt h g hg
  simp [World.frozen?, hc]
theorem cells_set : ∀ (l : List ND) (k : Nat) (n : ND) (x : Bool), l[k]? = some n → (l.flatMap ND.cells).set (k * 6 + 5) (.bool x) = (l.set k { n with af := x }).flatMap ND.cells
  | [], k, n, x, h => by simp at h
  | a :: r, 0, n, x, h => by
    obtain rfl : a = n := by simpa using h
    simp [ND.cells]
  | a :: r, k + 1, n, x, h => by
    have ih := cells_set r k n x (by simpa using h)
    rw [List.set_cons_succ, List.flatMap_cons, List.flatMap_cons, ← ih]
    rw [show (k + 1) * 6 + 5 = (k * 6 + 5) + 6 by omega]
    simp [ND.cells]
theorem like_set {l l' : List ND} (h : LikeN l l') {k : Nat} {n : ND} (hn : l'[k]? = some n) (x : Bool) : LikeN l (l'.set k { n with af := x }) := by
  unfold LikeN at *
  rw [h]
  apply List.ext_getElem?
  intro j
  rw [List.getElem?_map, List.getElem?_map, List.getElem?_set]
  by_cases hj : k = j
  · subst hj
    have hlt := (List.getElem?_eq_some_iff.1 hn).1
    have h2 : l'[k] = n := (List.getElem?_eq_some_iff.1 hn).2
    simp [hn, hlt, h2]
  · simp [hj]
theorem Set_any (l : List ND) (B : Nat) (v : Value) (w : World) (hx : w.ownsRow B 79 6 v l.length (l.flatMap ND.cells)) (hl : l.length ≤ 2147483647) :
    Calls Tryz.prog 36 #[v, .bool false] w fun e w' => SetR w l e w' ∧ Kp (fun _ => False) w w' := by
  obtain ⟨i0, hi, hz0, hz1, hz2⟩ := info_parts info79
  have HX := Lib.hid hx
  obtain ⟨Ax, cx, rfl⟩ := own_nil hx rfl
  clear hx
  have key : ∃ J : Value → World → Prop, True := ⟨fun _ _ => True, trivial⟩
  clear key
  cases Ax with
  | none =>
    have hl0 : l = [] := by
      rcases HX.out.2 with ⟨_, h⟩ | ⟨g, cap, cur, h, _⟩
      · exact List.eq_nil_of_length_eq_zero h
      · cases h
    subst hl0
    have hcx : cx = 0 := by
      rcases HX.out.2 with ⟨h, _⟩ | ⟨g, cap, cur, h, _⟩
      · injection h
      · cases h
    subst hcx
    clear HX
    go_enter Tryz.func36, Tryz.ntmps36
    go_wp2_with (at_builtin; refine wpList_append_own_none rfl (.const (.slice none 0 0)) (.tmp 8) 63 rfl w.heap.size 79 i0 6 Tryz.underlying63 hi (.slice none 0 0) 0 [] rfl (World.ownsRow_nil _ _ _ _) rfl ?_)
    go_wp2_with fail
    go_loopw [12] (fun i wr => i = .int .i64 0 ∧ wr = w) (fun i _ => 0)
    case atStart => exact ⟨rfl, rfl⟩
    case round =>
      obtain ⟨rfl, rfl⟩ := hrel
      go_wp2
      go_ret
      exact ⟨⟨_, [], rfl, rfl, World.ownsRow_nil _ _ _ _⟩, Kp.refl _ _⟩
  | some ad =>
    have hcells : ∀ j u, (l.flatMap ND.cells)[j]? = some u → w.cell? (ad.add j) = some u := by
      rcases HX.out.2 with ⟨h, _⟩ | ⟨g, cap, cur, h, _⟩
      · cases h
      · injection h with h
        injection h with h
        subst h
        exact fun j u hu => HX.out.cells rfl j u hu
    have HC := Lib.hid hcells
    clear hcells
    go_enter Tryz.func36, Tryz.ntmps36
    go_wp2_with (at_builtin; refine wpList_append_own _ rfl (.const (.slice none 0 0)) (.tmp 8) 63 rfl w.heap.size 79 i0 _ 6 48 Tryz.underlying63 hi hz0 hz1 hz2 rfl (by decide) (.slice none 0 0) 0 [] rfl (World.ownsRow_nil _ _ _ _) ad l.length cx (l.flatMap ND.cells) rfl (cells_len l) HC.out ?c1 ?c3 ?c4 ?c5 ?_)
    case c1 => exact cells_one l
    case c3 => unfold maxLen; omega
    case c4 => omega
    case c5 => exact Nat.le_refl _
    intro v' w5 hown' hgrow hnn
    obtain ⟨A, c, rfl⟩ := own_nil hown' rfl
    have HK5 := Lib.hid ((Kp.refl (fun _ => False) w).grown hgrow (fun k hk => by cases hk))
    have HI0 := Lib.hid (show SeI w l (.slice A l.length c) (.int .i64 0) w5 0 l from ⟨rfl, Nat.zero_le _, HK5.out, rfl, hown'⟩)
    clear hown' hgrow hnn HC
    go_wp2_with fail
    go_loopw [12] (fun i wr => ∃ k l', SeI w l (.slice A l.length c) i wr k l') (fun i _ => l.length - (intOf i).toNat)
    case atStart => exact ⟨_, _, HI0.out⟩
    case round =>
      obtain ⟨k, l', hI⟩ := hrel
      have q := hI.i
      subst q
      have hle := hI.le
      have HI := Lib.hid hI
      clear hI
      by_cases hk : k < l.length
      · have hll := HI.out.like.len
        have HF := Lib.hid (follower_any l' w.heap.size _ k wr HI.out.own (by omega) (by omega))
        go_wp2_with fail
        refine HF.out.mono ?_
        rintro e w6 ⟨⟨j, rfl, hj⟩, hk6⟩
        have HK6 := Lib.hid (HI.out.kp.trans hk6.out)
        have HO6 := Lib.hid (own_kp HI.out.own hk6.out (fun _ _ f => f))
        clear hk6 HF
        rcases hj with hj | ⟨q, rfl, hq⟩
        · have hj2 : decide (0 ≤ j) = false := by simp; omega
          go_upto_region 8 with fail
          go_quiet (fail)
          go_wp2
          refine ⟨⟨k + 1, l', rfl, hk, HK6.out.drewN _, HI.out.like, HO6.out⟩, ?_⟩
          simp [intOf]; omega
        · rw [hll] at hq
          obtain ⟨nk, hnk⟩ : ∃ n, l'[k]? = some n := ⟨_, List.getElem?_eq_getElem (by omega)⟩
          obtain ⟨nq, hnq⟩ : ∃ n, l'[q]? = some n := ⟨_, List.getElem?_eq_getElem (by omega)⟩
          obtain ⟨g, rfl, hck⟩ := own_at (by rw [hll]; rw [hll] at HO6; exact HO6.out) hnk
          obtain ⟨g', hg', hcq⟩ := own_at (A := some ⟨g, 0, none⟩) (c := c) (by rw [hll]; rw [hll] at HO6; exact HO6.out) hnq
          cases hg'
          have HCK := Lib.hid hck
          have HCQ := Lib.hid hcq
          have HNK := Lib.hid hnk
          have c0 := hck 0 _ rfl
          have c1 := hck 1 _ rfl
          have c2 := hck 2 _ rfl
          have c3 := hck 3 _ rfl
          have c4 := hck 4 _ rfl
          have c5 := hck 5 _ rfl
          have e0 := hcq 0 _ rfl
          have e1 := hcq 1 _ rfl
          have e2 := hcq 2 _ rfl
          have e3 := hcq 3 _ rfl
          have e4 := hcq 4 _ rfl
          have e5 := hcq 5 _ rfl
          simp only [Nat.add_zero] at c0 e0
          clear hck hcq hnk hnq
          go_upto_region 8 with fail
          have hkd : Kp (fun _ => False) w6 w6.drew := (Kp.refl _ _).drew
          go_region_held3 (fun w' => w'.cell? ⟨g, k * 6, none⟩ = some (.int .i64 nk.k) ∧ w'.cell? ⟨g, k * 6 + 1, none⟩ = some (.int .i64 nk.un) ∧ w'.cell? ⟨g, k * 6 + 2, none⟩ = some (.int .i64 nk.d) ∧ w'.cell? ⟨g, k * 6 + 3, none⟩ = some (.string (bstr nk.tx)) ∧ w'.cell? ⟨g, k * 6 + 4, none⟩ = some (.bool nk.bf) ∧ w'.cell? ⟨g, k * 6 + 5, none⟩ = some (.bool nk.af)
              ∧ w'.cell? ⟨g, q * 6, none⟩ = some (.int .i64 nq.k) ∧ w'.cell? ⟨g, q * 6 + 1, none⟩ = some (.int .i64 nq.un) ∧ w'.cell? ⟨g, q * 6 + 2, none⟩ = some (.int .i64 nq.d) ∧ w'.cell? ⟨g, q * 6 + 3, none⟩ = some (.string (bstr nq.tx)) ∧ w'.cell? ⟨g, q * 6 + 4, none⟩ = some (.bool nq.bf) ∧ w'.cell? ⟨g, q * 6 + 5, none⟩ = some (.bool nq.af) ∧ Kp (fun _ => False) w6 w')
            (first | go_keep | (go_split_ands; refine ⟨?_, ?_, ?_, ?_, ?_, ?_, ?_, ?_, ?_, ?_, ?_, ?_, ?_⟩ <;> first | assumption | (exact cellF_kp ‹Kp (fun _ => False) _ _› (by assumption)) | (exact (Kp.trans (by assumption) (by assumption)))))
            ((first
              | (go_at_call 46; refine (item_any _ _ _ _ _ _ _).mono ?_; rintro e w7 ⟨rfl, hk7⟩)
              | (go_at_call 45; refine (Apart_tot _ _ _ _ _ _ _ _ _).mono ?_; rintro e w7 ⟨⟨b, rfl⟩, hk7⟩)))
          have hk8 : Kp (fun _ => False) w6 w7 := by
            refine hkd.trans ?_
            refine Kp.trans ‹Kp (fun _ => False) w6.drew _› ?_
            exact Kp.trans ‹Kp (fun _ => False) _ _› hk7
          have HK7 := Lib.hid (HK6.out.trans hk8)
          have HO7 := Lib.hid (own_kp HO6.out hk8 (fun _ _ f => f))
          have a5 := cellF_kp hk8 (HCK.out 5 _ rfl)
          have z5 : w7.frozen? ⟨g, k * 6 + 5, none⟩ = false := own_froz HO7.out rfl _
          clear hk8 hk7 hkd HO6 c0 c1 c2 c3 c4 c5 e0 e1 e2 e3 e4 e5
          cases b
          · go_wp2
            refine ⟨⟨k + 1, l', rfl, hk, HK7.out, HI.out.like, HO7.out⟩, ?_⟩
            simp [intOf]; omega
          · go_wp2
            refine ⟨⟨k + 1, l'.set k { nk with af := true }, rfl, hk, HK7.out.setCell (p := ⟨g, k * 6 + 5, none⟩) (.inr (own_lt HO7.out g rfl).1) _, like_set HI.out.like HNK.out true, ?_⟩, ?_⟩
            · have hx := HO7.out
              rw [hll] at hx
              have h2 := (World.ownsRow.stored hx (k * 6 + 5) (.bool true)).1
              rw [cells_set l' k nk true HNK.out] at h2
              rw [List.length_set, hll]
              exact h2
            · simp [intOf]; omega
      · have hke : k = l.length := by omega
        subst hke
        go_wp2
        go_ret
        exact ⟨⟨_, l', rfl, HI.out.like, HI.out.own⟩, HI.out.kp⟩
end Go.Proofs.YtkaejhdncohgpaaGreatFmt
