/- Walk: impl.tokens over nodes that stand at the top. Condition: at most 2^31 nodes; a function, if there is one, is the last node; kinds and units fit. -/
import Derived.Test.YtkaejhdncohgpaaGreatFmtM10
import Derived.Test.YtkaejhdncohgpaaGreatFmtM8
import Derived.Deep.RegionHeld3
namespace Go.Proofs.YtkaejhdncohgpaaGreatFmt
set_option linter.all false
open Go.RowKit
set_option maxRecDepth 100000
set_option maxHeartbeats 8000000

/-- A text's code points. -/
def dcs (l : List UInt8) : List Int := (its l).map (·.1)
theorem dcs_encs (cs : List Int) (h : ∀ c ∈ cs, Scal c) : dcs (encs cs) = cs := by
  unfold dcs
  rw [its_encs cs h, List.map_map]
  exact List.map_id' cs
def wsOf (n : ND) : Int := (if n.bf then 1 else 0) + (if n.af then 2 else 0)
def tdOf (n : ND) : TD := .mk n.k (dcs n.tx) (wsOf n) n.un (if n.k = 27 then some [] else none)
/-- A node that fits a token. -/
structure NdOk (n : ND) : Prop where
  k0 : 0 ≤ n.k
  k1 : n.k < 256
  u0 : 0 ≤ n.un
  u1 : n.un < 65536
  tx : n.tx = encs (dcs n.tx)
theorem info100 : (Tryz.prog.info? 100).map (fun i => (i.zero, i.size, i.bytes)) = some (some (.agg #[.pointer none, .string ⟨#[]⟩, .int .i32 0, .int .u32 0, .int .u16 0, .int .u8 0, .int .u8 0]), 7, 40) := by kernel_rfl

theorem flatMap_cg {α β : Type} (l : List α) (f g : α → List β) (h : ∀ x ∈ l, f x = g x) : l.flatMap f = l.flatMap g := by
  induction l with
  | nil => rfl
  | cons a l ih => rw [List.flatMap_cons, List.flatMap_cons, h a (by simp), ih fun x hx => h x (by simp [hx])]
theorem toks_nil (A : Option Addr) (c : Nat) (d : Int) (w : World) : Calls Tryz.prog 26 #[.slice A 0 c, .int .i64 d] w fun e w' => e = .returned (.tuple #[.slice none 0 0, .int .i64 0]) ∧ w' = w := by
  go_enter Tryz.func26, Tryz.ntmps26
  go_wp2
  refine wp_loop_rounds 1 ?_
  rw [rounds_succ]
  go_wp2
  go_ret2
  exact ⟨rfl, rfl⟩

theorem kpSet7 (w : World) (b o : Nat) (u : Value) : Kp (fun k => k = b) w (w.setCell ⟨b, o, none⟩ u) := (Kp.refl (fun k => k = b) w).setCell (p := ⟨b, o, none⟩) (.inl rfl) u
theorem blk7 {w : World} {b T : Nat} {x0 x1 x2 x3 x4 x5 x6 : Value} (h : w.heap[b]? = some (.cells #[x0, x1, x2, x3, x4, x5, x6] T)) (u : Value) : (w.setCell ⟨b, 6, none⟩ u).heap[b]? = some (.cells #[x0, x1, x2, x3, x4, x5, u] T) := by
  simp [World.setCell, Array.getElem?_modify, h]
theorem blk70 {w : World} {b T : Nat} {x0 x1 x2 x3 x4 x5 x6 : Value} (h : w.heap[b]? = some (.cells #[x0, x1, x2, x3, x4, x5, x6] T)) (u : Value) : (w.setCell ⟨b, 0, none⟩ u).heap[b]? = some (.cells #[u, x1, x2, x3, x4, x5, x6] T) := by
  simp [World.setCell, Array.getElem?_modify, h]
def tcell (n : ND) (q : Option Addr) : List Value := [.pointer q, .string (bstr n.tx), .int .i32 0, .int .u32 0, .int .u16 n.un, .int .u8 n.k, .int .u8 (wsOf n)]
structure TkI (w0 : World) (l : List ND) (a i : Value) (wr : World) (dn rs : List ND) (q : Option Addr) : Prop where
  eq : dn ++ rs = l
  i : i = .int .i64 dn.length
  kp : Kp (fun _ => False) w0 wr
  own : wr.ownsRow w0.heap.size 100 7 a dn.length (dn.flatMap fun n => tcell n (if n.k = 27 then q else none))
  fl : Flt rs ∧ (∀ n ∈ dn, n.k ≠ 27) ∨ rs = [] ∧ ∃ bi, q = some ⟨bi, 0, none⟩ ∧ w0.heap.size ≤ bi ∧ wr.cell? ⟨bi, 0, none⟩ = some (.slice none 0 0)

theorem rowAt_of {w w0 : World} {l : List ND} {v : Value} {q : Option Addr} (hown : w.ownsRow w0.heap.size 100 7 v l.length (l.flatMap fun n => tcell n (if n.k = 27 then q else none))) (hok : ∀ n ∈ l, NdOk n)
    (hq : (∀ n ∈ l, n.k ≠ 27) ∨ ∃ bi, q = some ⟨bi, 0, none⟩ ∧ w0.heap.size ≤ bi ∧ w.cell? ⟨bi, 0, none⟩ = some (.slice none 0 0)) : RowAt w (fun k => w0.heap.size ≤ k ∧ k < w.heap.size) v (l.map tdOf) := by
  by_cases hl : l = []
  · subst hl
    rcases hown.2 with ⟨rfl, -⟩ | ⟨g, cap, cur, rfl, hB, hg, -⟩
    · exact .nil
    · exact .row g cap [] (by simp)
  · obtain ⟨g, cap, rfl, hB, hg⟩ : ∃ g cap, v = .slice (some ⟨g, 0, none⟩) l.length cap ∧ w0.heap.size ≤ g ∧ g < w.heap.size := by
      rcases hown.2 with ⟨-, h⟩ | ⟨g, cap, cur, h1, hB, hg, -⟩
      · exact absurd (List.eq_nil_of_length_eq_zero h) hl
      · exact ⟨g, cap, h1, hB, (Array.getElem?_eq_some_iff.1 hg).1⟩
    have e : (l.map tdOf).length = l.length := by simp
    rw [← e]
    refine .row g cap _ fun i t hi => ?_
    rw [List.getElem?_map] at hi
    obtain ⟨n, hn, rfl⟩ := Option.map_eq_some_iff.1 hi
    have hmem : n ∈ l := List.mem_of_getElem? hn
    obtain ⟨hil, hnn⟩ := List.getElem?_eq_some_iff.1 hn
    obtain ⟨dn, t, r, h1, h2⟩ := split_at l i hil
    have ht : t = n := by
      have : l[i]? = some t := by rw [← h1, ← h2]; simp
      rw [this] at hn; exact Option.some.inj hn
    subst ht
    rw [← h1] at hown
    obtain ⟨g', cap', hv, -, -, hc⟩ := own_elem (f := fun n => tcell n (if n.k = 27 then q else none)) hown (fun t => rfl) (by decide)
    cases hv
    rw [h2] at hc
    unfold tdOf
    refine .mk g _ _ _ _ _ _ (bstr t.tx) (.pointer (if t.k = 27 then q else none)) 0 0 ⟨hB, hg⟩ ⟨hc 0 _ rfl, hc 1 _ rfl, hc 2 _ rfl, hc 3 _ rfl, hc 4 _ rfl, hc 5 _ rfl, hc 6 _ rfl⟩ ?_ ?_
    · have := (hok t hmem).tx
      unfold bstr; simpa using this
    · by_cases h27 : t.k = 27
      · obtain ⟨bi, rfl, hbi, hcb⟩ := hq.resolve_left (fun h => h t hmem h27)
        rw [if_pos h27, if_pos h27]
        exact .some bi (.slice none 0 0) [] ⟨hbi, World.block_lt_of_cell? w _ hcb⟩ hcb .nil
      · rw [if_neg h27, if_neg h27]
        exact .none
theorem toks_flat (l : List ND) (B : Nat) (v : Value) (w : World) (hx : w.ownsRow B 25 6 v l.length (l.flatMap ND.cells)) (hl : l.length ≤ 2147483647) (hf : Flt l) (hok : ∀ n ∈ l, NdOk n) :
    Calls Tryz.prog 26 #[v, .int .i64 0] w fun e w' => ∃ v', e = .returned (.tuple #[v', .int .i64 l.length]) ∧ RowAt w' (fun k => w.heap.size ≤ k ∧ k < w'.heap.size) v' (l.map tdOf) ∧ Kp (fun _ => False) w w' := by
  obtain ⟨Ax, cx, rfl⟩ := own_nil hx rfl
  have HX := Lib.hid hx
  have HOK := Lib.hid hok
  have h0 : TkI w l (.slice none 0 0) (.int .i64 0) w [] l none := ⟨rfl, rfl, Kp.refl _ _, World.ownsRow_nil _ _ _ _, .inl ⟨hf, by simp⟩⟩
  have H0 := Lib.hid h0
  clear h0 hx hf hok
  go_enter Tryz.func26, Tryz.ntmps26
  go_wp2
  go_loopw [6, 7] (fun a i wr => ∃ dn rs q, TkI w l a i wr dn rs q) (fun _ i _ => l.length - (intOf i).toNat)
  case atStart => exact ⟨_, _, _, H0.out⟩
  case round =>
    obtain ⟨dn, rs, q, hI⟩ := hrel
    have q2 := hI.i
    subst q2
    match rs, hI with
    | [], hI =>
      obtain rfl : dn = l := by have := hI.eq; simpa using this
      have HI := Lib.hid hI
      clear hI
      go_wp2
      go_ret2
      refine ⟨_, rfl, rowAt_of HI.out.own HOK.out ?_, HI.out.kp⟩
      rcases HI.out.fl with h | ⟨-, h⟩
      · exact .inl h.2
      · exact .inr h
    | t :: r, hI =>
      obtain ⟨hflt, hn27⟩ := hI.fl.resolve_right (by simp)
      have hox := own_kp HX.out hI.kp (fun _ _ f => f)
      rw [← hI.eq] at hox
      obtain ⟨g2, cap2, hv2, hB2, hg2, hc⟩ := own_elem hox (fun t => rfl) (by decide)
      have hl2 : dn.length + (r.length + 1) = l.length := by rw [← hI.eq]; simp
      cases hv2
      have hi : dn.length < l.length := by omega
      have hd0 : t.d = 0 := by cases hflt <;> assumption
      have htok : NdOk t := HOK.out t (by rw [← hI.eq]; simp)
      obtain ⟨k0, k1, u0, u1, -⟩ := htok
      have c0 := hc 0 _ rfl
      have c1 := hc 1 _ rfl
      have c2 := hc 2 _ rfl
      have c3 := hc 3 _ rfl
      have c4 := hc 4 _ rfl
      have c5 := hc 5 _ rfl
      simp only [Nat.add_zero] at c0
      rw [hd0] at c2
      have HI := Lib.hid hI
      have HFL := Lib.hid hflt
      have HN27 := Lib.hid hn27
      clear hI hc hox hl2 hflt hd0 hn27
      go_upto_region 6 with fail
      have hkA : Kp (fun _ => False) wr ((wr.alloc (.cells #[.int .i64 t.k, .int .i64 t.un, .int .i64 0, .string (bstr t.tx), .bool t.bf, .bool t.af] 25)).alloc (.cells #[.pointer none, .string (bstr t.tx), .int .i32 0, .int .u32 0, .int .u16 t.un, .int .u8 t.k, .int .u8 0] 100)) := ((Kp.refl _ wr).alloc _).alloc _
      have hb8 : ((wr.alloc (.cells #[.int .i64 t.k, .int .i64 t.un, .int .i64 0, .string (bstr t.tx), .bool t.bf, .bool t.af] 25)).alloc (.cells #[.pointer none, .string (bstr t.tx), .int .i32 0, .int .u32 0, .int .u16 t.un, .int .u8 t.k, .int .u8 0] 100)).heap[wr.heap.size]? = some (.cells #[.int .i64 t.k, .int .i64 t.un, .int .i64 0, .string (bstr t.tx), .bool t.bf, .bool t.af] 25) := by
        rw [Below.heap_alloc _ _ _ (by simp)]; exact heap_alloc_new wr _
      have hb9 : ((wr.alloc (.cells #[.int .i64 t.k, .int .i64 t.un, .int .i64 0, .string (bstr t.tx), .bool t.bf, .bool t.af] 25)).alloc (.cells #[.pointer none, .string (bstr t.tx), .int .i32 0, .int .u32 0, .int .u16 t.un, .int .u8 t.k, .int .u8 0] 100)).heap[wr.heap.size + 1]? = some (.cells #[.pointer none, .string (bstr t.tx), .int .i32 0, .int .u32 0, .int .u16 t.un, .int .u8 t.k, .int .u8 0] 100) := by
        have := heap_alloc_new (wr.alloc (.cells #[.int .i64 t.k, .int .i64 t.un, .int .i64 0, .string (bstr t.tx), .bool t.bf, .bool t.af] 25)) (.cells #[.pointer none, .string (bstr t.tx), .int .i32 0, .int .u32 0, .int .u16 t.un, .int .u8 t.k, .int .u8 0] 100)
        rwa [show (wr.alloc (.cells #[.int .i64 t.k, .int .i64 t.un, .int .i64 0, .string (bstr t.tx), .bool t.bf, .bool t.af] 25)).heap.size = wr.heap.size + 1 by simp] at this
      generalize (wr.alloc (.cells #[.int .i64 t.k, .int .i64 t.un, .int .i64 0, .string (bstr t.tx), .bool t.bf, .bool t.af] 25)).alloc (.cells #[.pointer none, .string (bstr t.tx), .int .i32 0, .int .u32 0, .int .u16 t.un, .int .u8 t.k, .int .u8 0] 100) = w2 at *
      have HKA := Lib.hid hkA
      have HB8 := Lib.hid hb8
      have HB9 := Lib.hid hb9
      have hlt9 : wr.heap.size + 1 < w2.heap.size := (Array.getElem?_eq_some_iff.1 hb9).1
      clear hkA hb8 hb9 c0 c1 c2 c3 c4 c5
      obtain ⟨e0, e1, e2, e3, e4, e5⟩ := cells6n HB8.out
      obtain ⟨f0, f1, f2, f3, f4, f5, f6⟩ := cells7 HB9.out
      have ff : w2.frozen? ⟨wr.heap.size + 1, 6, none⟩ = false := by unfold World.frozen?; rw [HB9.out]; simp
      have e01 : bits .or .u8 0 1 = 1 := by decide
      go_upto_if 39 with fail
      go_cut [] (fun wx => Kp (fun k => k = wr.heap.size + 1) w2 wx ∧ wx.heap[wr.heap.size + 1]? = some (.cells #[.pointer none, .string (bstr t.tx), .int .i32 0, .int .u32 0, .int .u16 t.un, .int .u8 t.k, .int .u8 (if t.bf then 1 else 0)] 100))
      case first =>
        cases hbf : t.bf
        · go_wp2
          go_meet
          exact ⟨Kp.refl _ _, by simpa [hbf] using HB9.out⟩
        · go_wp2
          go_meet
          exact ⟨kpSet7 _ _ _ _, by rw [hbf]; exact blk7 HB9.out _⟩
      case rest =>
      obtain ⟨hkC, hb9⟩ := hcut
      have hb8 : wc.heap[wr.heap.size]? = some (.cells #[.int .i64 t.k, .int .i64 t.un, .int .i64 0, .string (bstr t.tx), .bool t.bf, .bool t.af] 25) := by
        have hne : wr.heap.size ≠ wr.heap.size + 1 := by omega
        rw [hkC.block wr.heap.size (by omega) hne]; exact HB8.out
      have HKC := Lib.hid hkC
      have HB9c := Lib.hid hb9
      have HB8c := Lib.hid hb8
      have hlt9c : wr.heap.size + 1 < wc.heap.size := (Array.getElem?_eq_some_iff.1 hb9).1
      clear hkC hb8 hb9 e0 e1 e2 e3 e4 e5 f0 f1 f2 f3 f4 f5 f6 ff
      obtain ⟨e0, e1, e2, e3, e4, e5⟩ := cells6n HB8c.out
      obtain ⟨f0, f1, f2, f3, f4, f5, f6⟩ := cells7 HB9c.out
      have ff : wc.frozen? ⟨wr.heap.size + 1, 6, none⟩ = false := by unfold World.frozen?; rw [HB9c.out]; simp
      obtain ⟨bw, hbw⟩ : ∃ x : Int, x = if t.bf then 1 else 0 := ⟨_, rfl⟩
      rw [← hbw] at f6
      have hbw2 : bits .or .u8 bw 2 = bw + 2 := by rw [hbw]; cases t.bf <;> decide
      have HBW := Lib.hid hbw
      clear hbw
      go_upto_if 45 with fail
      go_cut [] (fun wx => Kp (fun k => k = wr.heap.size + 1) wc wx ∧ wx.heap[wr.heap.size + 1]? = some (.cells #[.pointer none, .string (bstr t.tx), .int .i32 0, .int .u32 0, .int .u16 t.un, .int .u8 t.k, .int .u8 (wsOf t)] 100))
      case first =>
        cases haf : t.af
        · go_wp2
          go_meet
          refine ⟨Kp.refl _ _, ?_⟩
          have e : wsOf t = if t.bf then 1 else 0 := by simp [wsOf, haf]
          rw [e]; exact HB9c.out
        · go_wp2
          go_meet
          refine ⟨kpSet7 _ _ _ _, ?_⟩
          have e : wsOf t = bw + 2 := by rw [HBW.out]; simp [wsOf, haf]
          rw [e]; exact blk7 HB9c.out _
      case rest =>
      rename_i wb
      obtain ⟨hkD, hb9⟩ := hcut
      have hb8 : wc.heap[wr.heap.size]? = some (.cells #[.int .i64 t.k, .int .i64 t.un, .int .i64 0, .string (bstr t.tx), .bool t.bf, .bool t.af] 25) := by
        have hne : wr.heap.size ≠ wr.heap.size + 1 := by omega
        rw [hkD.block wr.heap.size (by omega) hne]; exact HB8c.out
      have hkk : Kp (fun k => k = wr.heap.size + 1) wr wc := ((HKA.out.mono (T := fun k => k = wr.heap.size + 1) (fun _ _ f => f.elim)).trans HKC.out).trans hkD
      have hlt9d : wr.heap.size + 1 < wc.heap.size := (Array.getElem?_eq_some_iff.1 hb9).1
      have HKK := Lib.hid hkk
      have HB9d := Lib.hid hb9
      have HB8d := Lib.hid hb8
      clear hkD hkk hb8 hb9 e0 e1 e2 e3 e4 e5 f0 f1 f2 f3 f4 f5 f6 ff e01 hbw2
      obtain ⟨e0, e1, e2, e3, e4, e5⟩ := cells6n HB8d.out
      obtain ⟨f0, f1, f2, f3, f4, f5, f6⟩ := cells7 HB9d.out
      have hown : Hid (wc.ownsRow w.heap.size 100 7 u6 dn.length (dn.flatMap fun n => tcell n (if n.k = 27 then q else none))) := Lib.hid (own_kp HI.out.own HKK.out (fun k hk e => by have := (own_lt HI.out.own k hk).2.1; omega))
      have hw0 : w.heap.size ≤ wr.heap.size := HI.out.kp.size
      have hu6 : ∀ k, u6.ownBlock = some k → w.heap.size ≤ k ∧ k < wr.heap.size := fun k hk => ⟨(own_lt HI.out.own k hk).1, (own_lt HI.out.own k hk).2.1⟩
      have HU6 := Lib.hid hu6
      have HKW : Hid (Kp (fun _ => False) w wc) := Lib.hid (HI.out.kp.trans' HKK.out (fun k hk e => by omega))
      obtain ⟨i0, hi', hz0, hz1, hz2⟩ := info_parts info100
      clear hu6
      have HFL2 := HFL.out
      cases hcase : decide (t.k = 27)
      · have hne : t.k ≠ 27 := by simpa using hcase
        have hfr : Flt r ∧ t.k ≠ 33 ∧ t.k ≠ 32 ∧ t.k ≠ 31 := by
          cases HFL2 with
          | plain _ _ _ h1 h2 h3 h4 hr => exact ⟨hr, h2, h3, h4⟩
          | func _ _ h1 => exact absurd h1 hne
        have b1 : (t.k == 27) = false := by simpa using hne
        have b2 : (t.k == 33) = false := by simpa using hfr.2.1
        have b3 : (t.k == 32) = false := by simpa using hfr.2.2.1
        have b4 : (t.k == 31) = false := by simpa using hfr.2.2.2
        have HFR := Lib.hid hfr.1
        have HNE := Lib.hid hne
        have HNW := Lib.hid (World.news_of_block (heap_alloc_new wc (.cells #[.pointer none, .string (bstr t.tx), .int .i32 0, .int .u32 0, .int .u16 t.un, .int .u8 t.k, .int .u8 (wsOf t)] 100)))
        clear HFL2 hcase hne hfr
        go_wp2_with (at_builtin; refine wpList_append_own _ rfl (.tmp 73) (.tmp 75) 55 rfl w.heap.size 100 i0 _ 7 40 Tryz.underlying55 hi' hz0 hz1 hz2 rfl (by decide) u6 dn.length _ rfl (World.ownsRow.alloc hown.out _) ⟨wc.heap.size, 0, none⟩ 1 1 (tcell t none) rfl rfl HNW.out ?c1 ?c3 ?c4 ?c5 ?_)
        case c1 => intro x hx; simp [tcell] at hx; rcases hx with rfl | rfl | rfl | rfl | rfl | rfl | rfl <;> rfl
        case c3 => unfold maxLen; omega
        case c4 => omega
        case c5 => have := HKW.out.size; exact Nat.le_trans this (by simp)
        intro v' w5 hown' hgrow _
        have HK5 : Hid (Kp (fun _ => False) w w5) := Lib.hid ((HKW.out.alloc _).grown hgrow (fun k hk => .inr (HU6.out k hk).1))
        have HO5 := Lib.hid hown'
        clear hown' hgrow
        go_wp2
        refine ⟨⟨dn ++ [t], r, q, by rw [← HI.out.eq]; simp, by simp, HK5.out, ?_, .inl ⟨HFR.out, ?_⟩⟩, ?_⟩
        · have := HO5.out
          rw [List.flatMap_append, List.length_append]
          simpa [HNE.out] using this
        · intro n hn
          rcases List.mem_append.1 hn with hn | hn
          · exact HN27.out n hn
          · simp at hn; subst hn; exact HNE.out
        · simp [intOf]; omega
      · have hk27 : t.k = 27 := by simpa using hcase
        have hfr : r = [] := by
          cases HFL2 with
          | plain _ _ _ h1 h2 h3 h4 hr => exact absurd hk27 h1
          | func _ _ h1 => rfl
        subst hfr
        rw [hk27] at f5 e0
        have HK27 := Lib.hid hk27
        clear HFL2 hcase hk27
        have hle : l.length ≤ dn.length + 1 := by rw [← HI.out.eq]; simp
        have hcap : l.length ≤ cx := by
          rcases HX.out.2 with ⟨h1, -⟩ | ⟨g, cap, cur, h1, -, -, h2, -⟩
          · cases h1
          · cases h1; exact h2
        go_upto_region 16 with fail
        go_cut [10, 11] (fun t10 t11 wx => ∃ bi, t10 = .pointer (some ⟨bi, 0, none⟩) ∧ t11 = .int .i64 0 ∧ wc.heap.size ≤ bi ∧ wx.cell? ⟨bi, 0, none⟩ = some (.slice none 0 0) ∧ Kp (fun _ => False) wc wx)
        case first =>
          obtain ⟨A', hA⟩ : ∃ A', (if cx = dn.length + 1 then some (⟨g2, 0, none⟩ : Addr) else some ⟨g2, (dn.length + 1) * 6, none⟩) = A' := ⟨_, rfl⟩
          have HA := Lib.hid hA
          clear hA
          refine wp_region_held_drew (S := fun w' => w'.cell? ⟨wr.heap.size, 2, none⟩ = some (.int .i64 0)) (by kernel_rfl) e2 (fun hHeld => ?_)
          refine wpAnyH_take (i := 0) (oi := ⟨some 60, _, _, _, _, _⟩) (v := .slice (some ⟨g2, 0, none⟩) l.length cx) rfl (by kernel_rfl) (by kernel_rfl) (by kernel_rfl) (fun _ _ _ h => h) (Or.inl ⟨by kernel_rfl, ?_⟩) (by assumption) ?_
          · (intro w' hS; go_simp)
          simp only [Act.put, List.setIfInBounds_toArray, List.set_cons_zero, List.set_cons_succ]
          refine wpAnyH_take (i := 1) (oi := ⟨some 61, _, _, _, _, _⟩) (v := .int .i64 ((dn.length : Int) + 1)) rfl (by kernel_rfl) (by kernel_rfl) (by kernel_rfl) (fun _ _ _ h => h) (Or.inl ⟨by kernel_rfl, ?_⟩) (by assumption) ?_
          · (intro w' hS; go_simp)
          simp only [Act.put, List.setIfInBounds_toArray, List.set_cons_zero, List.set_cons_succ]
          refine wpAnyH_take (i := 2) (oi := ⟨some 62, _, _, _, _, _⟩) (v := .slice A' 0 (cx - (dn.length + 1))) rfl (by kernel_rfl) (by kernel_rfl) (by kernel_rfl) (fun _ _ _ h => h) (Or.inl ⟨by kernel_rfl, ?_⟩) (by assumption) ?_
          · (intro w' hS; rw [← HA.out]; go_simp; intro hq; exfalso; have := hq (by omega); omega)
          simp only [Act.put, List.setIfInBounds_toArray, List.set_cons_zero, List.set_cons_succ]
          refine wpAnyH_take (i := 3) (oi := ⟨some 63, _, _, _, _, _⟩) (v := .pointer (some ⟨wr.heap.size, 2, none⟩)) rfl (by kernel_rfl) (by kernel_rfl) (by kernel_rfl) (fun _ _ _ h => h) (Or.inl ⟨by kernel_rfl, ?_⟩) (by assumption) ?_
          · (intro w' hS; go_simp)
          simp only [Act.put, List.setIfInBounds_toArray, List.set_cons_zero, List.set_cons_succ]
          refine wpAnyH_take (i := 4) (oi := ⟨some 64, _, _, _, _, _⟩) (v := .int .i64 0) rfl (by kernel_rfl) (by kernel_rfl) (by kernel_rfl) (fun _ _ _ h => h) (Or.inl ⟨by kernel_rfl, ?_⟩) (by assumption) ?_
          · (intro w' hS; go_simp)
          simp only [Act.put, List.setIfInBounds_toArray, List.set_cons_zero, List.set_cons_succ]
          refine wpAnyH_take (i := 5) (oi := ⟨some 65, _, _, _, _, _⟩) (v := .int .i64 1) rfl (by kernel_rfl) (by kernel_rfl) (by kernel_rfl) (fun _ _ _ h => h) (Or.inl ⟨by kernel_rfl, ?_⟩) (by assumption) ?_
          · (intro w' hS; first | (go_simp; done) | (go_simp; decide))
          simp only [Act.put, List.setIfInBounds_toArray, List.set_cons_zero, List.set_cons_succ]
          refine wpAnyH_ready (rs := [6, 10]) (by kernel_rfl) (by simp) ?_
          refine AllReadyH.cons (o := ⟨some 66, _, _, _, _, _⟩) rfl (fun K hK => ?_) (AllReadyH.cons (o := ⟨some 10, _, _, _, _, _⟩) rfl (fun K hK => ?_) AllReadyH.nil)
          · go_simp
            go_wp2_with (go_at_call 26; refine (toks_nil _ _ _ _).mono ?_; rintro e w9 ⟨rfl, rfl⟩)
            refine hK.out _ _ (by first | assumption | go_keep) (fun _ => ?_)
            try simp only [Act.put, List.setIfInBounds_toArray, List.set_cons_zero, List.set_cons_succ]
            refine wpAnyH_take (i := 7) (oi := ⟨some 59, _, _, _, _, _⟩) (v := .tuple #[.slice none 0 0, .int .i64 0]) rfl (by kernel_rfl) (by kernel_rfl) (by kernel_rfl) (fun _ _ _ h => h) (Or.inl ⟨by kernel_rfl, ?_⟩) (by assumption) ?_
            · (intro w' hS; go_simp)
            simp only [Act.put, List.setIfInBounds_toArray, List.set_cons_zero, List.set_cons_succ]
            refine wpAnyH_take (i := 8) (oi := ⟨some 67, _, _, _, _, _⟩) (v := .slice none 0 0) rfl (by kernel_rfl) (by kernel_rfl) (by kernel_rfl) (fun _ _ _ h => h) (Or.inl ⟨by kernel_rfl, ?_⟩) (by assumption) ?_
            · (intro w' hS; go_simp)
            simp only [Act.put, List.setIfInBounds_toArray, List.set_cons_zero, List.set_cons_succ]
            refine wpAnyH_take (i := 9) (oi := ⟨some 68, _, _, _, _, _⟩) (v := .int .i64 0) rfl (by kernel_rfl) (by kernel_rfl) (by kernel_rfl) (fun _ _ _ h => h) (Or.inl ⟨by kernel_rfl, ?_⟩) (by assumption) ?_
            · (intro w' hS; go_simp)
            simp only [Act.put, List.setIfInBounds_toArray, List.set_cons_zero, List.set_cons_succ]
            refine wpAnyH_ready (rs := [10]) (by kernel_rfl) (by simp) ?_
            refine AllReadyH.cons (o := ⟨some 10, _, _, _, _, _⟩) rfl (fun K hK => ?_) AllReadyH.nil
            go_simp
            refine hK.out _ _ (by go_keep) (fun _ => ?_)
            try simp only [Act.put, List.setIfInBounds_toArray, List.set_cons_zero, List.set_cons_succ]
            refine wpAnyH_ready (rs := [11]) (by kernel_rfl) (by simp) ?_
            refine AllReadyH.cons (o := ⟨none, _, _, _, _, _⟩) rfl (fun K hK => ?_) AllReadyH.nil
            go_simp
            refine hK.out _ _ (by go_keep) (fun _ => ?_)
            try simp only [Act.put, List.setIfInBounds_toArray, List.set_cons_zero, List.set_cons_succ]
            refine wpAnyH_take (i := 12) (oi := ⟨some 11, _, _, _, _, _⟩) (v := .int .i64 0) rfl (by kernel_rfl) (by kernel_rfl) (by kernel_rfl) (fun _ _ _ h => h) (Or.inl ⟨by kernel_rfl, ?_⟩) (by assumption) ?_
            · (intro w' hS; go_simp)
            simp only [Act.put, List.setIfInBounds_toArray, List.set_cons_zero, List.set_cons_succ]
            refine wpAnyH_done (by kernel_rfl) ?_ _
            go_wp2
            go_meet
            exact ⟨wc.heap.size, rfl, rfl, Nat.le_refl _, by show (wc.alloc _).cell? _ = _; rw [World.cell?, heap_alloc_new]; rfl, ((Kp.refl _ wc).alloc _).drew⟩
          · go_simp
            refine hK.out _ _ (by go_keep) (fun _ => ?_)
            try simp only [Act.put, List.setIfInBounds_toArray, List.set_cons_zero, List.set_cons_succ]
            refine wpAnyH_ready (rs := [6]) (by kernel_rfl) (by simp) ?_
            refine AllReadyH.cons (o := ⟨some 66, _, _, _, _, _⟩) rfl (fun K hK => ?_) AllReadyH.nil
            go_simp
            go_wp2_with (go_at_call 26; refine (toks_nil _ _ _ _).mono ?_; rintro e w9 ⟨rfl, rfl⟩)
            refine hK.out _ _ (by first | assumption | go_keep) (fun _ => ?_)
            try simp only [Act.put, List.setIfInBounds_toArray, List.set_cons_zero, List.set_cons_succ]
            refine wpAnyH_take (i := 7) (oi := ⟨some 59, _, _, _, _, _⟩) (v := .tuple #[.slice none 0 0, .int .i64 0]) rfl (by kernel_rfl) (by kernel_rfl) (by kernel_rfl) (fun _ _ _ h => h) (Or.inl ⟨by kernel_rfl, ?_⟩) (by assumption) ?_
            · (intro w' hS; go_simp)
            simp only [Act.put, List.setIfInBounds_toArray, List.set_cons_zero, List.set_cons_succ]
            refine wpAnyH_take (i := 8) (oi := ⟨some 67, _, _, _, _, _⟩) (v := .slice none 0 0) rfl (by kernel_rfl) (by kernel_rfl) (by kernel_rfl) (fun _ _ _ h => h) (Or.inl ⟨by kernel_rfl, ?_⟩) (by assumption) ?_
            · (intro w' hS; go_simp)
            simp only [Act.put, List.setIfInBounds_toArray, List.set_cons_zero, List.set_cons_succ]
            refine wpAnyH_take (i := 9) (oi := ⟨some 68, _, _, _, _, _⟩) (v := .int .i64 0) rfl (by kernel_rfl) (by kernel_rfl) (by kernel_rfl) (fun _ _ _ h => h) (Or.inl ⟨by kernel_rfl, ?_⟩) (by assumption) ?_
            · (intro w' hS; go_simp)
            simp only [Act.put, List.setIfInBounds_toArray, List.set_cons_zero, List.set_cons_succ]
            refine wpAnyH_ready (rs := [11]) (by kernel_rfl) (by simp) ?_
            refine AllReadyH.cons (o := ⟨none, _, _, _, _, _⟩) rfl (fun K hK => ?_) AllReadyH.nil
            go_simp
            refine hK.out _ _ (by go_keep) (fun _ => ?_)
            try simp only [Act.put, List.setIfInBounds_toArray, List.set_cons_zero, List.set_cons_succ]
            refine wpAnyH_take (i := 12) (oi := ⟨some 11, _, _, _, _, _⟩) (v := .int .i64 0) rfl (by kernel_rfl) (by kernel_rfl) (by kernel_rfl) (fun _ _ _ h => h) (Or.inl ⟨by kernel_rfl, ?_⟩) (by assumption) ?_
            · (intro w' hS; go_simp)
            simp only [Act.put, List.setIfInBounds_toArray, List.set_cons_zero, List.set_cons_succ]
            refine wpAnyH_done (by kernel_rfl) ?_ _
            go_wp2
            go_meet
            exact ⟨wc.heap.size, rfl, rfl, Nat.le_refl _, by show (wc.alloc _).cell? _ = _; rw [World.cell?, heap_alloc_new]; rfl, ((Kp.refl _ wc).alloc _).drew⟩
        case rest =>
        obtain ⟨bi, rfl, rfl, hbi, hcb, hkE⟩ := hcut
        rename_i wb
        have hb9e : wc.heap[wr.heap.size + 1]? = some (.cells #[.pointer none, .string (bstr t.tx), .int .i32 0, .int .u32 0, .int .u16 t.un, .int .u8 t.k, .int .u8 (wsOf t)] 100) := by
          rw [hkE.block (wr.heap.size + 1) hlt9d (fun f => f)]; exact HB9d.out
        have HB9e := Lib.hid hb9e
        have HKE := Lib.hid hkE
        have HCB := Lib.hid hcb
        have hlt9e : wr.heap.size + 1 < wc.heap.size := (Array.getElem?_eq_some_iff.1 hb9e).1
        have hbil : bi < wc.heap.size := World.block_lt_of_cell? wc _ hcb
        clear hkE hb9e hcb f0 f1 f2 f3 f4 f5 f6 e0 e1 e2 e3 e4 e5
        obtain ⟨f0, f1, f2, f3, f4, f5, f6⟩ := cells7 HB9e.out
        have ff : wc.frozen? ⟨wr.heap.size + 1, 0, none⟩ = false := by unfold World.frozen?; rw [HB9e.out]; simp
        have hbs := blk70 HB9e.out (.pointer (some ⟨bi, 0, none⟩))
        have hks := kpSet7 wc (wr.heap.size + 1) 0 (.pointer (some ⟨bi, 0, none⟩))
        go_upto_region 19 with fail
        generalize wc.setCell ⟨wr.heap.size + 1, 0, none⟩ (.pointer (some ⟨bi, 0, none⟩)) = w4 at *
        have HBS := Lib.hid hbs
        have hk4 : Kp (fun k => k = wr.heap.size + 1) wr w4 := (HKK.out.trans' HKE.out (fun _ _ f => f.elim)).trans hks
        have HK4 := Lib.hid hk4
        have HKW4 : Hid (Kp (fun _ => False) w w4) := Lib.hid (HI.out.kp.trans' hk4 (fun k hk e => by omega))
        have hown4 : Hid (w4.ownsRow w.heap.size 100 7 u6 dn.length (dn.flatMap fun n => tcell n (if n.k = 27 then q else none))) := Lib.hid (own_kp HI.out.own hk4 (fun k hk e => by have := (HU6.out k hk).2; omega))
        have hcb4 : w4.cell? ⟨bi, 0, none⟩ = some (.slice none 0 0) := by
          have hne : bi ≠ wr.heap.size + 1 := by omega
          rw [World.cell?_of_block (w := wc) (hks.block bi hbil hne)]; exact HCB.out
        have HCB4 := Lib.hid hcb4
        have HNW := Lib.hid (World.news_of_block (heap_alloc_new w4 (.cells #[.pointer (some ⟨bi, 0, none⟩), .string (bstr t.tx), .int .i32 0, .int .u32 0, .int .u16 t.un, .int .u8 27, .int .u8 (wsOf t)] 100)))
        rw [HK27.out] at hbs
        clear hks hk4 hcb4 f0 f1 f2 f3 f4 f5 f6 ff
        obtain ⟨f0, f1, f2, f3, f4, f5, f6⟩ := cells7 hbs
        clear hbs
        go_wp2_with (at_builtin; refine wpList_append_own _ rfl (.tmp 73) (.tmp 75) 55 rfl w.heap.size 100 i0 _ 7 40 Tryz.underlying55 hi' hz0 hz1 hz2 rfl (by decide) u6 dn.length _ rfl (World.ownsRow.alloc hown4.out _) ⟨w4.heap.size, 0, none⟩ 1 1 [.pointer (some ⟨bi, 0, none⟩), .string (bstr t.tx), .int .i32 0, .int .u32 0, .int .u16 t.un, .int .u8 27, .int .u8 (wsOf t)] rfl rfl HNW.out ?c1 ?c3 ?c4 ?c5 ?_)
        case c1 => exact ⟨rfl, rfl, rfl, rfl, rfl, rfl, rfl⟩
        case c3 => unfold maxLen; omega
        case c4 => omega
        case c5 => have := HKW4.out.size; exact Nat.le_trans this (by simp)
        intro v' w5 hown' hgrow _
        have HK5 : Hid (Kp (fun _ => False) w w5) := Lib.hid ((HKW4.out.alloc _).grown hgrow (fun k hk => .inr (HU6.out k hk).1))
        have HO5 := Lib.hid hown'
        have hb4 : bi < w4.heap.size := World.block_lt_of_cell? w4 _ HCB4.out
        have HC5 : Hid (w5.cell? ⟨bi, 0, none⟩ = some (.slice none 0 0)) := Lib.hid (by
          rw [World.cell?_of_block (w := w4.alloc (.cells #[.pointer (some ⟨bi, 0, none⟩), .string (bstr t.tx), .int .i32 0, .int .u32 0, .int .u16 t.un, .int .u8 27, .int .u8 (wsOf t)] 100)) (hgrow.block bi (by simp; omega) (fun e => by have := (HU6.out _ e.symm).2; omega)),
            World.cell?_of_block (w := w4) (Below.heap_alloc _ _ _ hb4)]
          exact HCB4.out)
        clear hown' hgrow
        go_wp2
        refine ⟨⟨dn ++ [t], [], some ⟨bi, 0, none⟩, by rw [← HI.out.eq]; simp, by simp, HK5.out, ?_, .inr ⟨rfl, bi, rfl, by omega, HC5.out⟩⟩, ?_⟩
        · have := HO5.out
          rw [List.flatMap_append, List.length_append]
          have e : (dn.flatMap fun n => tcell n (if n.k = 27 then some ⟨bi, 0, none⟩ else none)) = dn.flatMap fun n => tcell n (if n.k = 27 then q else none) := by
            refine flatMap_cg _ _ _ fun n hn => ?_
            rw [if_neg (HN27.out n hn), if_neg (HN27.out n hn)]
          rw [e]
          simpa [HK27.out, tcell] using this
        · simp [intOf]; omega
end Go.Proofs.YtkaejhdncohgpaaGreatFmt
