/- The laws' tree: a tree of nodes, with whitespace where it must be; The reference's Between; Plain law: the nodes of a tree are tokens that can be printed; Walk: impl.tokens over nodes of any depth. -/
import Derived.Test.YtkaejhdncohgpaaGreatFmtN2
import Derived.Test.YtkaejhdncohgpaaGreatFmtM11
import Derived.Test.YtkaejhdncohgpaaGreatFmtQ3
import Derived.Test.YtkaejhdncohgpaaGreatFmtLH
import Derived.Deep.RegionHeld3
/- The laws' tree: a tree of nodes, with whitespace where it must be. Condition: lengths that a machine can have. -/
namespace Go.Proofs.YtkaejhdncohgpaaGreatFmt
set_option linter.all false
open Go.RowKit
set_option maxRecDepth 100000
set_option maxHeartbeats 4000000

/-- All texts' bytes. -/
def txS (l : List ND) : Nat := (l.map fun n => n.tx.length).sum
/-- What a tree's nodes are. -/
structure TreeOk (a : Bool) (l : List ND) : Prop where
  nd : ∀ n ∈ l, NOk n
  len : l.length ≤ 1000
  dep : ∀ n ∈ l, n.d ≤ 64
  sum : txS l ≤ 1048576
  d0 : ∀ n ∈ l, 0 ≤ n.d
/-- What tree answers. -/
def TreeR (a : Bool) (w : World) (l : List ND) (e : Ending) (w' : World) : Prop :=
  (∃ v, e = .returned (.tuple #[v, .bool false])) ∨ ∃ v l', e = .returned (.tuple #[v, .bool true]) ∧ LikeN l l' ∧ TreeOk a l' ∧ w'.ownsRow w.heap.size 25 6 v l'.length (l'.flatMap ND.cells)
/-- The loop of tree. -/
structure TlI (w1 : World) (l : List ND) (sz i : Value) (wr : World) (dn rs : List ND) : Prop where
  eq : dn ++ rs = l
  i : i = .int .i64 dn.length
  sz : sz = .int .i64 (txS dn : Nat)
  sm : txS dn ≤ 1048576
  dep : ∀ n ∈ dn, n.d ≤ 64
  kp : Kp (fun _ => False) w1 wr
theorem low_l (l : List UInt8) (a : Bool) (w : World) (hl : l.length ≤ 2147483647) : Calls Tryz.prog 17 #[.string (bstr l), .bool a] w fun e w' => e = .returned (.bool (!a || lowA l)) ∧ w' = w := by
  have h := low_any (bstr l) a w (by rw [bstr_size]; omega)
  rwa [bstr_l] at h
theorem like_map {α : Type} {l l' : List ND} (h : LikeN l l') (f : ND → α) (hf : ∀ n x, f { n with af := x } = f n) : l.map f = l'.map f := by
  have e : ∀ l : List ND, l.map f = (l.map (fun n => { n with af := false })).map f := fun l => by
    rw [List.map_map]
    exact List.map_congr_left fun n _ => (hf n false).symm
  rw [e l, e l', h]
theorem like_all {l l' : List ND} (h : LikeN l l') (P : ND → Prop) (hp : ∀ n x, P { n with af := x } = P n) (hl : ∀ n ∈ l, P n) : ∀ n ∈ l', P n := by
  intro n hn
  have hm : P n ∈ l'.map P := List.mem_map_of_mem hn
  rw [← like_map h P hp] at hm
  obtain ⟨m, h1, h2⟩ := List.mem_map.1 hm
  rw [← h2]; exact hl m h1
theorem tree_like {a : Bool} {l l' : List ND} (h : LikeN l l') (k : TreeOk a l) : TreeOk a l' :=
  ⟨like_all h NOk (fun _ _ => rfl) k.nd, by rw [h.len]; exact k.len, like_all h (fun n => n.d ≤ 64) (fun _ _ => rfl) k.dep, by
    have := like_map h (fun n => n.tx.length) (fun _ _ => rfl)
    have hs := k.sum
    unfold txS at *
    rw [← this]; exact hs, like_all h (fun n => 0 ≤ n.d) (fun _ _ => rfl) k.d0⟩
theorem tree_any (l : List ND) (v : Value) (a : Bool) (w : World) (hx : SlN w v l) (hl : l.length ≤ 2147483647) (ht : ∀ n ∈ l, n.tx.length ≤ 2147483647) :
    Calls Tryz.prog 19 #[v, .bool false, .bool a] w fun e w' => TreeR a w l e w' ∧ Kp (fun _ => False) w w' := by
  have HG := Lib.hid (nodes_gen l v w hx hl)
  have HT := Lib.hid ht
  obtain ⟨Ax, cx, rfl, -⟩ := hx
  clear ht
  by_cases hb : 1000 < l.length
  · go_enter Tryz.func19, Tryz.ntmps19
    go_wp2_with fail
    refine HG.out.mono ?_
    rintro e w1 ⟨v1, rfl, ho, hk⟩
    have HK := Lib.hid hk
    clear ho hk HG
    dsimp only
    go_wp2_with fail
    go_ret2
    exact ⟨.inl ⟨_, rfl⟩, HK.out⟩
  · have hb2 : decide ((1000 : Int) < (l.length : Int)) = false := by simp; omega
    go_enter Tryz.func19, Tryz.ntmps19
    go_wp2_with fail
    refine HG.out.mono ?_
    rintro e w1 ⟨v1, rfl, ho, hk⟩
    have HK := Lib.hid hk
    have HO := Lib.hid ho
    clear ho hk HG
    dsimp only
    have HI := Lib.hid (IsTree_any l w.heap.size v1 w1 HO.out hl HT.out)
    go_wp2_with fail
    refine HI.out.mono ?_
    rintro e w2 ⟨⟨b, rfl, hbn⟩, hk2⟩
    have HK2 := Lib.hid (HK.out.trans hk2)
    have HO2 := Lib.hid (own_kp HO.out hk2 (fun _ _ f => f))
    have HBN := Lib.hid hbn
    clear hk2 hbn HI HO HK
    dsimp only
    cases b
    · go_wp2_with fail
      go_ret2
      exact ⟨.inl ⟨_, rfl⟩, HK2.out⟩
    have HND := Lib.hid (HBN.out rfl)
    clear HBN
    obtain ⟨A1, c1, rfl⟩ := own_nil HO2.out rfl
    have HL0 := Lib.hid (show TlI w2 l (.int .i64 0) (.int .i64 0) w2 [] l from ⟨rfl, rfl, rfl, by simp [txS], (fun n h => by cases h), Kp.refl _ _⟩)
    go_wp2_with fail
    go_loopw [9, 24] (fun sz i wr => ∃ dn rs, TlI w2 l sz i wr dn rs) (fun _ i _ => l.length - (intOf i).toNat)
    case atStart => exact ⟨_, _, HL0.out⟩
    case round =>
      obtain ⟨dn, rs, hI⟩ := hrel
      have q2 := hI.i
      have q3 := hI.sz
      subst q2
      subst q3
      match rs, hI with
      | [], hI =>
        obtain rfl : dn = l := by have := hI.eq; simpa using this
        have HI := Lib.hid hI
        clear hI
        have HO3 := Lib.hid (own_kp HO2.out HI.out.kp (fun _ _ f => f))
        have HS := Lib.hid (Set_any dn w.heap.size _ wr HO3.out hl)
        go_wp2_with fail
        refine HS.out.mono ?_
        rintro e w5 ⟨⟨v5, l5, rfl, hlk, ho5⟩, hk5⟩
        have HLK := Lib.hid hlk
        have HB := Lib.hid (back_any l5 wr.heap.size v5 w5 ho5 (by rw [hlk.len]; exact hl))
        have HK5 := Lib.hid ((HK2.out.trans HI.out.kp).trans hk5)
        clear hlk ho5 hk5 HS
        dsimp only
        go_wp2_with fail
        refine HB.out.mono ?_
        rintro e w6 ⟨v6, rfl, ho6, hk6⟩
        have HO6 := Lib.hid ho6
        have HK6 := Lib.hid (HK5.out.trans hk6)
        clear ho6 hk6
        dsimp only
        go_wp2_with fail
        go_ret2
        refine ⟨.inr ⟨v6, l5, rfl, HLK.out, ?_, own_mono HO6.out HK5.out.size⟩, HK6.out⟩
        exact tree_like HLK.out ⟨fun n hn => (HND.out n hn).1, by omega, HI.out.dep, HI.out.sm, fun n hn => (HND.out n hn).2⟩
      | t :: r, hI =>
        have hox := own_kp HO2.out hI.kp (fun _ _ f => f)
        rw [← hI.eq] at hox
        obtain ⟨g2, cap2, hv2, hB2, hg2, hc⟩ := own_elem hox (fun t => rfl) (by decide)
        have hl2 : dn.length + (r.length + 1) = l.length := by rw [← hI.eq]; simp
        cases hv2
        have hi : dn.length < l.length := by omega
        have c0 := hc 0 _ rfl
        have c1 := hc 1 _ rfl
        have c2 := hc 2 _ rfl
        have c3 := hc 3 _ rfl
        have c4 := hc 4 _ rfl
        have c5 := hc 5 _ rfl
        simp only [Nat.add_zero] at c0
        have HTT := Lib.hid (HT.out t (by rw [← hI.eq]; simp))
        have HSM := Lib.hid hI.sm
        have HI := Lib.hid hI
        clear hI hc hox hl2
        have hkA : Kp (fun _ => False) wr (wr.alloc (.cells #[.int .i64 t.k, .int .i64 t.un, .int .i64 t.d, .string (bstr t.tx), .bool t.bf, .bool t.af] 79)) := (Kp.refl _ wr).alloc _
        have hbl := heap_alloc_new wr (.cells #[.int .i64 t.k, .int .i64 t.un, .int .i64 t.d, .string (bstr t.tx), .bool t.bf, .bool t.af] 79)
        go_upto_region 8 with fail
        generalize wr.alloc (.cells #[.int .i64 t.k, .int .i64 t.un, .int .i64 t.d, .string (bstr t.tx), .bool t.bf, .bool t.af] 79) = w4 at *
        have HKA := Lib.hid ((HK2.out.trans HI.out.kp).trans hkA)
        have HKB := Lib.hid (HI.out.kp.trans hkA)
        obtain ⟨d0, d1, d2, d3, d4, d5⟩ := cells6n hbl
        clear hkA hbl c0 c1 c2 c3 c4 c5
        have hz := bstr_size t.tx
        have hs1 : (txS dn : Int) + ((bstr t.tx).size : Int) = ((txS (dn ++ [t]) : Nat) : Int) := by simp [txS, hz]
        have hs2 : txS (dn ++ [t]) ≤ 3000000000 := by have := HSM.out; have := HTT.out; simp [txS] at *; omega
        have HL := Lib.hid (low_l t.tx a · HTT.out)
        clear hz
        by_cases h1 : 64 < t.d
        · go_wp2
          go_ret2
          exact ⟨.inl ⟨_, rfl⟩, HKA.out⟩
        by_cases h2 : 1048576 < txS (dn ++ [t])
        · have h3 : (1048576 : Int) < ((txS (dn ++ [t]) : Nat) : Int) := by omega
          go_wp2
          go_ret2
          exact ⟨.inl ⟨_, rfl⟩, HKA.out⟩
        have h3 : ¬ (1048576 : Int) < ((txS (dn ++ [t]) : Nat) : Int) := by omega
        cases hlo : (!a || lowA t.tx)
        · have HLO := Lib.hid hlo
          clear hlo
          go_wp2_with (go_at_call 17; refine (HL.out _).mono ?_; rw [HLO.out]; rintro e w5 ⟨rfl, rfl⟩)
          go_ret2
          exact ⟨.inl ⟨_, rfl⟩, HKA.out⟩
        · have HLO := Lib.hid hlo
          clear hlo
          go_wp2_with (go_at_call 17; refine (HL.out _).mono ?_; rw [HLO.out]; rintro e w5 ⟨rfl, rfl⟩)
          refine ⟨⟨dn ++ [t], r, by rw [← HI.out.eq]; simp, by simp, rfl, by omega, ?_, HKB.out⟩, ?_⟩
          · intro n hn
            rcases List.mem_append.1 hn with hn | hn
            · exact HI.out.dep n hn
            · obtain rfl : n = t := by simpa using hn
              omega
          · simp [intOf]; omega
end Go.Proofs.YtkaejhdncohgpaaGreatFmt

/- The reference's Between. Condition: lengths that a machine can have. -/
namespace Go.Proofs.YtkaejhdncohgpaaGreatFmt
set_option linter.all false
open Go.RowKit
set_option maxRecDepth 100000
set_option maxHeartbeats 1000000

theorem Between_s (s p q t : ByteArray) (w : World) (hs : s.size ≤ 140737488355328) (hz : s.size = p.size + t.size + q.size) (h1 : s.extract 0 p.size = p) (h2 : s.extract (p.size + t.size) s.size = q) (h3 : s.extract p.size (p.size + t.size) = t) :
    Calls Tryz.prog 20 #[.string s, .string p, .string q] w fun e w' => e = .returned (.string t) ∧ w' = w := by
  have b1 : decide ((s.size : Int) < (p.size : Int) + (q.size : Int)) = false := by simp; omega
  have b2 : (s.size : Int) - (q.size : Int) = ((p.size + t.size : Nat) : Int) := by omega
  have b3 : p.size ≤ s.size := by omega
  have b4 : p.size + t.size ≤ s.size := by omega
  have H3 := Lib.hid h3
  clear hz h3
  go_enter Tryz.func20, Tryz.ntmps20
  go_wp2
  go_ret
  exact ⟨show Ending.returned (.string (s.extract p.size (p.size + t.size))) = _ by rw [H3.out], rfl⟩
theorem Between_any (x p q : List UInt8) (w : World) (hl : p.length + x.length + q.length ≤ 140737488355328) :
    Calls Tryz.prog 20 #[.string (bstr (p ++ x ++ q)), .string (bstr p), .string (bstr q)] w fun e w' => e = .returned (.string (bstr x)) ∧ w' = w := by
  refine Between_s _ _ _ _ w ?_ ?_ ?_ ?_ ?_
  · rw [bstr_size]; simp; omega
  · simp only [bstr_size]; simp; omega
  · apply ByteArray.ext; simp [bstr, ByteArray.data_extract, ByteArray.size]
  · apply ByteArray.ext; simp [bstr, ByteArray.data_extract, ByteArray.size, ← List.append_assoc]
  · apply ByteArray.ext; simp [bstr, ByteArray.data_extract, ByteArray.size]
end Go.Proofs.YtkaejhdncohgpaaGreatFmt

/- Plain law: the nodes of a tree are tokens that can be printed. No program stands in this file. -/
namespace Go.Proofs.YtkaejhdncohgpaaGreatFmt
set_option linter.all false
open Go.RowKit
set_option maxRecDepth 100000

theorem plI_f (x : Its) (h : plI true x = true) : plI false x = true := by
  cases x with
  | nil => rfl
  | cons a r => simp [plI, okC] at *; simp [h]
theorem plB_l (l : List UInt8) (h : plB l = true) : ∃ cs, l = encs cs ∧ ∀ c ∈ cs, Pl c := by
  refine plB_x l ?_
  have e : its (120 :: l) = (120, 1) :: its l := by
    rw [its_cons _ (by simp)]
    simp [raL]
  unfold plB at *
  rw [e]
  simp only [plI]
  rw [plI_f _ h]
  decide
theorem nmB_x (l : List UInt8) (h : nmB l = true) : ∃ cs, l = encs cs ∧ ∀ c ∈ cs, Pl c := by
  unfold nmB at h
  rw [Bool.and_eq_true] at h
  exact plB_x l h.2
/-- A node's text as code points. -/
structure NdT (n : ND) (cs : List Int) : Prop where
  tx : n.tx = encs cs
  sc : ∀ c ∈ cs, Scal c
  un : n.k = 26 → 0 ≤ n.un ∧ n.un < 65536 ∧ n.un.toNat = (encs (spl n.un.toNat cs).1).length
theorem nok_text (n : ND) (h : NOk n) : ∃ cs, NdT n cs := by
  rcases h with ⟨hk, h⟩ | ⟨hk, h⟩ | ⟨hk, h1, h2, h3, h4, h5⟩ | ⟨hk, h⟩
  · obtain ⟨cs, h1, h2⟩ := nmB_x _ h
    exact ⟨cs, h1, fun c hc => (h2 c hc).1, fun e => by omega⟩
  · obtain ⟨cs, h1, h2⟩ := plB_x _ h
    exact ⟨cs, h1, fun c hc => (h2 c hc).1, fun e => by omega⟩
  · obtain ⟨a, a1, a2⟩ := plB_l _ h4
    obtain ⟨b, b1, b2⟩ := nmB_x _ h5
    have hx : n.tx = encs (a ++ b) := by rw [encs_app, ← a1, ← b1, List.take_append_drop]
    have hl : (encs a).length = n.un.toNat := by rw [← a1, List.length_take]; omega
    refine ⟨a ++ b, hx, fun c hc => ?_, fun _ => ⟨by omega, by omega, ?_⟩⟩
    · rcases List.mem_append.1 hc with hc | hc
      · exact (a2 c hc).1
      · exact (b2 c hc).1
    · rw [← hl, spl_enc]
  · obtain ⟨cs, h1, h2⟩ := plB_l _ h
    exact ⟨cs, h1, fun c hc => (h2 c hc).1, fun e => by omega⟩

def opN (k : Int) : Bool := decide (k = 27 ∨ k = 31 ∨ k = 32 ∨ k = 33)
def tdN (n : ND) (ch : Option (List TD)) : TD := .mk n.k (dcs n.tx) (wsOf n) (n.un % 65536) ch
/-- The tokens of nodes that are so deep, and the nodes that are left. -/
def bld : Nat → Int → List ND → List TD × List ND
  | 0, _, l => ([], l)
  | _ + 1, _, [] => ([], [])
  | f + 1, d, n :: r =>
    if n.d < d then ([], n :: r)
    else if opN n.k then (tdN n (some (bld f (n.d + 1) r).1) :: (bld f d (bld f (n.d + 1) r).2).1, (bld f d (bld f (n.d + 1) r).2).2)
    else (tdN n none :: (bld f d r).1, (bld f d r).2)
theorem bld_sub : ∀ (f : Nat) (d : Int) (l : List ND) (n : ND), n ∈ (bld f d l).2 → n ∈ l
  | 0, _, l, n, h => h
  | _ + 1, _, [], n, h => h
  | f + 1, d, x :: r, n, h => by
    rw [bld] at h
    split at h
    · exact h
    split at h
    · exact List.mem_cons_of_mem _ (bld_sub f _ r n (bld_sub f d _ n h))
    · exact List.mem_cons_of_mem _ (bld_sub f d r n h)
theorem bld_ok : ∀ (f : Nat) (d : Int) (l : List ND), (∀ n ∈ l, NOk n) → TsOk true (bld f d l).1
  | 0, _, l, _ => .nil
  | _ + 1, _, [], _ => .nil
  | f + 1, d, x :: r, h => by
    have hr : ∀ n ∈ r, NOk n := fun n hn => h n (List.mem_cons_of_mem _ hn)
    have hx := h x (by simp)
    obtain ⟨cs, hcs⟩ := nok_text x hx
    have hd : dcs x.tx = cs := by rw [hcs.tx, dcs_encs cs hcs.sc]
    have hw : wsOf x = 0 ∨ wsOf x = 1 ∨ wsOf x = 2 ∨ wsOf x = 3 := by unfold wsOf; cases x.bf <;> cases x.af <;> decide
    have hk : KOk true x.k := by
      unfold KOk Raw
      rcases hx with ⟨hk, -⟩ | ⟨hk, -⟩ | ⟨hk, -⟩ | ⟨hk, -⟩
      · omega
      · exact .inr (.inr (.inr (.inr (.inl ⟨rfl, hk⟩))))
      · omega
      · omega
    have hu : x.k = 26 → 0 ≤ x.un % 65536 ∧ x.un % 65536 < 65536 ∧ (x.un % 65536).toNat = (encs (spl (x.un % 65536).toNat (dcs x.tx)).1).length := fun e => by
      have := hcs.un e
      rw [hd, show x.un % 65536 = x.un by omega]
      exact this
    rw [bld]
    split
    · exact .nil
    split
    · rename_i _ ho
      have ho' : Opn x.k := by unfold opN at ho; unfold Opn; have := of_decide_eq_true ho; omega
      exact .cons _ _ _ _ _ _ hw hk (by rw [hd]; exact hcs.sc) hu (.some _ _ ho' (bld_ok f _ r hr)) (bld_ok f d _ fun n hn => hr n (bld_sub f _ r n hn))
    · rename_i _ ho
      have ho' : ¬ Opn x.k := by unfold opN at ho; unfold Opn; intro e; exact ho (decide_eq_true (by omega))
      exact .cons _ _ _ _ _ _ hw hk (by rw [hd]; exact hcs.sc) hu (.none _ ho') (bld_ok f d r hr)
theorem txS_cons (n : ND) (l : List ND) : txS (n :: l) = n.tx.length + txS l := by simp [txS]
theorem bld_cost : ∀ (f : Nat) (d : Int) (l : List ND), (∀ n ∈ l, NOk n) → costL (bld f d l).1 + (8 * txS (bld f d l).2 + 400 * (bld f d l).2.length) ≤ 8 * txS l + 400 * l.length
  | 0, _, l, _ => by simp [bld, costL]
  | _ + 1, _, [], _ => by simp [bld, costL]
  | f + 1, d, x :: r, h => by
    have hr : ∀ n ∈ r, NOk n := fun n hn => h n (List.mem_cons_of_mem _ hn)
    obtain ⟨cs, hcs⟩ := nok_text x (h x (by simp))
    have hd : encs (dcs x.tx) = x.tx := by rw [hcs.tx, dcs_encs cs hcs.sc]
    have h1 := bld_cost f (x.d + 1) r hr
    have h2 := bld_cost f d (bld f (x.d + 1) r).2 fun n hn => hr n (bld_sub f _ r n hn)
    have h3 := bld_cost f d r hr
    rw [bld]
    split
    · simp [costL]
    split
    · simp only [tdN, costL, costT, costO, hd, txS_cons, List.length_cons]
      omega
    · simp only [tdN, costL, costT, costO, hd, txS_cons, List.length_cons]
      omega
theorem bld_len : ∀ (f : Nat) (d : Int) (l : List ND), (bld f d l).2.length ≤ l.length
  | 0, _, l => Nat.le_refl _
  | _ + 1, _, [] => Nat.le_refl _
  | f + 1, d, x :: r => by
    have h1 := bld_len f (x.d + 1) r
    have h2 := bld_len f d (bld f (x.d + 1) r).2
    have h3 := bld_len f d r
    rw [bld]
    split
    · exact Nat.le_refl _
    split
    · simp only [List.length_cons]; omega
    · simp only [List.length_cons]; omega
theorem bld_fuel : ∀ (f g : Nat) (d : Int) (l : List ND), l.length ≤ f → l.length ≤ g → bld f d l = bld g d l
  | 0, g, d, l, h, _ => by
    have : l = [] := List.eq_nil_of_length_eq_zero (by omega)
    subst this
    cases g <;> rfl
  | f + 1, 0, d, l, _, h => by
    have : l = [] := List.eq_nil_of_length_eq_zero (by omega)
    subst this
    rfl
  | f + 1, g + 1, d, [], _, _ => rfl
  | f + 1, g + 1, d, x :: r, h1, h2 => by
    have e1 := bld_fuel f g (x.d + 1) r (by simpa using h1) (by simpa using h2)
    have hl := bld_len g (x.d + 1) r
    have e2 := bld_fuel f g d (bld g (x.d + 1) r).2 (by simp at h1; omega) (by simp at h2; omega)
    have e3 := bld_fuel f g d r (by simpa using h1) (by simpa using h2)
    rw [bld, bld, e1, e2, e3]
/-- The tokens of nodes that are so deep, and the nodes that are left. -/
def bldL (d : Int) (l : List ND) : List TD × List ND := bld l.length d l
theorem bldL_nil (d : Int) : bldL d [] = ([], []) := rfl
theorem bldL_cons (d : Int) (n : ND) (r : List ND) : bldL d (n :: r) =
    if n.d < d then ([], n :: r)
    else if opN n.k then (tdN n (some (bldL (n.d + 1) r).1) :: (bldL d (bldL (n.d + 1) r).2).1, (bldL d (bldL (n.d + 1) r).2).2)
    else (tdN n none :: (bldL d r).1, (bldL d r).2) := by
  unfold bldL
  rw [List.length_cons, bld]
  have hl := bld_len r.length (n.d + 1) r
  rw [bld_fuel r.length (bld r.length (n.d + 1) r).2.length d (bld r.length (n.d + 1) r).2 hl (Nat.le_refl _)]
end Go.Proofs.YtkaejhdncohgpaaGreatFmt

/- Walk: impl.tokens over nodes of any depth. Condition: at most 1000 nodes, each one a token that can be printed, 64 deep at most. -/
namespace Go.Proofs.YtkaejhdncohgpaaGreatFmt
set_option linter.all false
open Go.RowKit
set_option maxRecDepth 100000
set_option maxHeartbeats 8000000

/-- append(l, t): a token more, and where the row lies then. -/
theorem app_tok {w : World} {ops : Array Oper} {rest : List Oper} {o : Oper} {a : Act} {Q : Exit → Act → World → Prop} (sl x : Operand)
    (ho : o.op = .call { callee := .builtin .append, args := #[sl, x], argTypes := #[55, 55] }) (hgd : o.guard = none)
    (B : Nat) (v : Value) (n : Nat) (xs : List Value) (hs : a.eval sl = v) (hown : w.ownsRow B 100 7 v n xs) (ad : Addr) (news : List Value) (hx : a.eval x = .slice (some ad) 1 1) (hl : news.length = 7)
    (hnews : ∀ j u, news[j]? = some u → w.cell? (ad.add j) = some u) (h1 : ∀ u ∈ news, u.oneCell' = true) (hb : n ≤ 2000000000) (hB : B ≤ w.heap.size)
    (h : ∀ v' w', w'.ownsRow B 100 7 v' (n + 1) (xs ++ news) → w.grownBy w' v.ownBlock → (∀ k, v'.ownBlock = some k → v.ownBlock = some k ∨ w.heap.size ≤ k) → wpList Tryz.prog ops Q rest (a.put o.dst v') w') : wpList Tryz.prog ops Q (o :: rest) a w := by
  obtain ⟨i0, hi, hz0, hz1, hz2⟩ := info_parts info100
  have h63 : n + 1 ≤ maxLen := by unfold maxLen; omega
  obtain ⟨v', w', hr, h2, h3, h4⟩ := run_append_own (P := Tryz.prog) w B 55 o.type 100 i0 _ 7 40 Tryz.underlying55 hi hz0 hz1 hz2 rfl (by decide) v n xs hown ad 1 1 news hl hnews h1 h63 (by omega) hB
  have h5 := place_slice (P := Tryz.prog) w B 55 o.type 100 i0 _ 7 40 Tryz.underlying55 hi hz0 hz1 hz2 rfl (by decide) v n xs hown ad 1 1 news hl hnews h1 h63 (by omega) hr h4
  refine wpList_plain hgd fun K hK => ?_
  unfold Oper.wp
  simp [execOp, ho, resolve, invoke, builtin, hs, hx, hr, Result.andThen]
  exact hK _ _ (h v' w' h2 h3 h5)

theorem bld_suf : ∀ (f : Nat) (d : Int) (l : List ND), (bld f d l).2 <:+ l
  | 0, _, l => List.suffix_refl l
  | _ + 1, _, [] => List.suffix_refl _
  | f + 1, d, x :: r => by
    rw [bld]
    split
    · exact List.suffix_refl _
    split
    · exact ((bld_suf f d _).trans (bld_suf f _ r)).trans (List.suffix_cons x r)
    · exact (bld_suf f d r).trans (List.suffix_cons x r)
theorem bldL_drop (d : Int) (l : List ND) : (bldL d l).2 = l.drop (l.length - (bldL d l).2.length) := List.suffix_iff_eq_drop.1 (bld_suf _ _ _)
theorem bldL_len (d : Int) (l : List ND) : (bldL d l).2.length ≤ l.length := bld_len _ _ _

/-- A token that was made: its node, the cell of its children, these. -/
structure Bt where
  n : ND
  pv : Value
  ch : Option (List TD)
def Bt.cells (b : Bt) : List Value := [b.pv, .string (bstr b.n.tx), .int .i32 0, .int .u32 0, .int .u16 (b.n.un % 65536), .int .u8 b.n.k, .int .u8 (wsOf b.n)]
def Bt.td (b : Bt) : TD := tdN b.n b.ch
theorem rowAt_bt {w : World} {B : Nat} {bs : List Bt} {v : Value} (hown : w.ownsRow B 100 7 v bs.length (bs.flatMap Bt.cells)) (htx : ∀ b ∈ bs, b.n.tx = encs (dcs b.n.tx))
    (hbt : ∀ b ∈ bs, OptAt w (fun k => B ≤ k ∧ k < w.heap.size) b.pv b.ch) : RowAt w (fun k => B ≤ k ∧ k < w.heap.size) v (bs.map Bt.td) := by
  by_cases hl : bs = []
  · subst hl
    rcases hown.2 with ⟨rfl, -⟩ | ⟨g, cap, cur, rfl, hB, hg, -⟩
    · exact .nil
    · exact .row g cap [] (by simp)
  · obtain ⟨g, cap, rfl, hB, hg⟩ : ∃ g cap, v = .slice (some ⟨g, 0, none⟩) bs.length cap ∧ B ≤ g ∧ g < w.heap.size := by
      rcases hown.2 with ⟨-, h⟩ | ⟨g, cap, cur, h1, hB, hg, -⟩
      · exact absurd (List.eq_nil_of_length_eq_zero h) hl
      · exact ⟨g, cap, h1, hB, (Array.getElem?_eq_some_iff.1 hg).1⟩
    have e : (bs.map Bt.td).length = bs.length := by simp
    rw [← e]
    refine .row g cap _ fun i t hi => ?_
    rw [List.getElem?_map] at hi
    obtain ⟨n, hn, rfl⟩ := Option.map_eq_some_iff.1 hi
    have hmem : n ∈ bs := List.mem_of_getElem? hn
    obtain ⟨hil, hnn⟩ := List.getElem?_eq_some_iff.1 hn
    obtain ⟨dn, t, r, h1, h2⟩ := split_at bs i hil
    have ht : t = n := by
      have : bs[i]? = some t := by rw [← h1, ← h2]; simp
      rw [this] at hn; exact Option.some.inj hn
    subst ht
    rw [← h1] at hown
    obtain ⟨g', cap', hv, -, -, hc⟩ := own_elem (f := Bt.cells) hown (fun t => rfl) (by decide)
    cases hv
    rw [h2] at hc
    refine .mk g _ _ _ _ _ _ (bstr t.n.tx) t.pv 0 0 ⟨hB, hg⟩ ⟨hc 0 _ rfl, hc 1 _ rfl, hc 2 _ rfl, hc 3 _ rfl, hc 4 _ rfl, hc 5 _ rfl, hc 6 _ rfl⟩ ?_ (hbt t hmem)
    have := htx t hmem
    unfold bstr; simpa using this

/-- Nodes that came in, in a slice. -/
def SlC (w : World) (v : Value) (l : List ND) : Prop := ∃ (A : Option Addr) (cap : Nat), v = .slice A l.length cap ∧ l.length ≤ cap ∧ (l = [] ∨ ∃ b o, A = some ⟨b, o, none⟩ ∧ ∀ i n, l[i]? = some n → ∀ j u, n.cells[j]? = some u → w.cell? ⟨b, o + i * 6 + j, none⟩ = some u)
theorem SlC.kp {w w' : World} {v : Value} {l : List ND} (h : SlC w v l) (hk : Kp (fun _ => False) w w') : SlC w' v l := by
  obtain ⟨A, cap, rfl, hl, h⟩ := h
  refine ⟨A, cap, rfl, hl, ?_⟩
  rcases h with h | ⟨b, o, hA, hc⟩
  · exact .inl h
  · refine .inr ⟨b, o, hA, fun i n hi j u hu => ?_⟩
    have := hc i n hi j u hu
    have hlt : b < w.heap.size := World.block_lt_of_cell? w _ this
    rw [World.cell?_of_block (w := w) (hk.block b hlt (fun f => f))]; exact this
theorem SlC.own {w : World} {B : Nat} {v : Value} {l : List ND} (h : w.ownsRow B 25 6 v l.length (l.flatMap ND.cells)) : SlC w v l := by
  by_cases hl : l = []
  · subst hl
    rcases h.2 with ⟨rfl, -⟩ | ⟨g, cap, cur, rfl, hB, hg, hnc, -⟩
    · exact ⟨none, 0, rfl, Nat.le_refl _, .inl rfl⟩
    · exact ⟨some ⟨g, 0, none⟩, cap, rfl, hnc, .inl rfl⟩
  · rcases h.2 with ⟨-, h2⟩ | ⟨g, cap, cur, rfl, hB, hg, hnc, -⟩
    · exact absurd (List.eq_nil_of_length_eq_zero h2) hl
    · refine ⟨some ⟨g, 0, none⟩, cap, rfl, hnc, .inr ⟨g, 0, rfl, fun i n hi j u hu => ?_⟩⟩
      obtain ⟨g', hg', hc⟩ := own_at h hi
      cases hg'
      rw [Nat.zero_add]
      exact hc j u hu
theorem SlC.drop {w : World} {b o cap : Nat} {l : List ND} (h : ∀ i n, l[i]? = some n → ∀ j u, n.cells[j]? = some u → w.cell? ⟨b, o + i * 6 + j, none⟩ = some u) (hl : l.length ≤ cap) (k : Nat) (hk : k ≤ l.length) (A' : Option Addr)
    (hA : (if cap = k then some (⟨b, o, none⟩ : Addr) else some ⟨b, o + k * 6, none⟩) = A') (n : Nat) (hn : n = (l.drop k).length) : SlC w (.slice A' n (cap - k)) (l.drop k) := by
  subst hn
  refine ⟨A', cap - k, rfl, by simp; omega, ?_⟩
  by_cases he : l.drop k = []
  · exact .inl he
  · have hkl : k < l.length := by
      rcases Nat.lt_or_ge k l.length with h1 | h1
      · exact h1
      · exact absurd (List.drop_eq_nil_of_le h1) he
    rw [if_neg (by omega)] at hA
    refine .inr ⟨b, o + k * 6, hA.symm, fun i n hi j u hu => ?_⟩
    rw [List.getElem?_drop] at hi
    have := h (k + i) n hi j u hu
    rwa [show o + k * 6 + i * 6 = o + (k + i) * 6 by omega]

/-- The loop of tokens. -/
structure TsI (w0 : World) (d : Int) (l : List ND) (a i : Value) (wr : World) (dn : Nat) (rs : List ND) (bs : List Bt) : Prop where
  eq : rs = l.drop dn
  le : dn ≤ l.length
  sz : bs.length ≤ dn
  i : i = .int .i64 dn
  kp : Kp (fun _ => False) w0 wr
  own : wr.ownsRow w0.heap.size 100 7 a bs.length (bs.flatMap Bt.cells)
  bt : ∀ b ∈ bs, OptAt wr (fun k => w0.heap.size ≤ k ∧ k < wr.heap.size ∧ a.ownBlock ≠ some k) b.pv b.ch
  tx : ∀ b ∈ bs, b.n.tx = encs (dcs b.n.tx)
  bl : bldL d l = (bs.map Bt.td ++ (bldL d rs).1, (bldL d rs).2)
/-- What tokens answers. -/
def TkR (d : Int) (l : List ND) (w : World) (e : Ending) (w' : World) : Prop :=
  ∃ v' n, e = .returned (.tuple #[v', .int .i64 n]) ∧ n = ((l.length - (bldL d l).2.length : Nat) : Int) ∧ RowAt w' (fun k => w.heap.size ≤ k ∧ k < w'.heap.size) v' (bldL d l).1 ∧ Kp (fun _ => False) w w'
theorem TsI.done {w0 wr : World} {d : Int} {l rs : List ND} {a i : Value} {dn : Nat} {bs : List Bt} (hI : TsI w0 d l a i wr dn rs bs) (h : bldL d rs = ([], rs)) : TkR d l w0 (.returned (.tuple #[a, .int .i64 dn])) wr := by
  refine ⟨a, dn, rfl, ?_, ?_, hI.kp⟩
  · rw [hI.bl, h, hI.eq]
    have := hI.le
    simp only [List.length_drop]; omega
  · rw [hI.bl, h, List.append_nil]
    exact rowAt_bt hI.own hI.tx fun b hb => (hI.bt b hb).mono fun k hk => ⟨hk.1, hk.2.1⟩
theorem TsI.step {w0 wr w4 w5 : World} {d : Int} {l : List ND} {a i : Value} {dn : Nat} {t : ND} {r : List ND} {bs : List Bt} (hI : TsI w0 d l a i wr dn (t :: r) bs) (hk4 : Kp (fun k => wr.heap.size ≤ k) wr w4) {v' : Value} (hg : w4.grownBy w5 a.ownBlock)
    (hpl : ∀ k, v'.ownBlock = some k → a.ownBlock = some k ∨ w4.heap.size ≤ k) (pv : Value) (ch : Option (List TD)) (hown : w5.ownsRow w0.heap.size 100 7 v' (bs.length + 1) (bs.flatMap Bt.cells ++ (Bt.mk t pv ch).cells))
    (hop : OptAt w4 (fun k => wr.heap.size ≤ k ∧ k < w4.heap.size) pv ch) (htx : t.tx = encs (dcs t.tx)) (dn' : Nat) (r' : List ND) (i' : Value) (hi : i' = .int .i64 dn') (hr : r' = l.drop dn') (h1 : dn < dn') (h2 : dn' ≤ l.length)
    (hb : bldL d (t :: r) = (tdN t ch :: (bldL d r').1, (bldL d r').2)) : TsI w0 d l v' i' w5 dn' r' (bs ++ [⟨t, pv, ch⟩]) := by
  have hk4' : Kp (fun _ => False) wr w4 := hk4.mono fun k h1 h2 => by omega
  have hk5 : Kp (fun k => a.ownBlock = some k) w4 w5 := grown_kp hg
  have hol := own_lt hI.own
  have s1 := hk4'.size
  have s2 := hk5.size
  have s0 := hI.kp.size
  refine ⟨hr, h2, by have := hI.sz; simp; omega, hi, (hI.kp.trans hk4').trans' hk5 fun k hk e => ?_, ?_, ?_, ?_, ?_⟩
  · have := (hol k e).1; omega
  · simpa using hown
  · intro b hb
    rcases List.mem_append.1 hb with hb | hb
    · have e1 := (hI.bt b hb).kp hk4' (fun k hk => hk.2.1) (fun k f => f.elim)
      have e2 := e1.kp hk5 (fun k hk => by have := hk.2.1; omega) (fun k e hk => hk.2.2 e)
      refine e2.mono fun k hk => ⟨hk.1, by have := hk.2.1; omega, fun e => ?_⟩
      rcases hpl k e with h3 | h3
      · exact hk.2.2 h3
      · have := hk.2.1; omega
    · obtain rfl : b = ⟨t, pv, ch⟩ := by simpa using hb
      have e2 := hop.kp hk5 (fun k hk => hk.2) (fun k e hk => by have := (hol k e).2.1; have := hk.1; omega)
      refine e2.mono fun k hk => ⟨by have := hk.1; omega, by have := hk.2; omega, fun e => ?_⟩
      rcases hpl k e with h3 | h3
      · have := (hol k h3).2.1; have := hk.1; omega
      · have := hk.2; omega
  · intro b hb
    rcases List.mem_append.1 hb with hb | hb
    · exact hI.tx b hb
    · obtain rfl : b = ⟨t, pv, ch⟩ := by simpa using hb
      exact htx
  · rw [hI.bl, hb]
    simp [Bt.td]
theorem opN_b (k : Int) : ((k == 27) || (k == 31) || (k == 32) || (k == 33)) = opN k := by
  unfold opN
  by_cases q1 : k = 27 <;> by_cases q2 : k = 31 <;> by_cases q3 : k = 32 <;> by_cases q4 : k = 33 <;> simp_all
theorem nok_k {n : ND} (h : NOk n) : 0 ≤ n.k ∧ n.k < 256 := by
  rcases h with ⟨hk, h⟩ | ⟨hk, h⟩ | ⟨hk, h1, h2, h3, h4, h5⟩ | ⟨hk, h⟩ <;> omega
theorem nok_tx {n : ND} (h : NOk n) : n.tx = encs (dcs n.tx) := by
  obtain ⟨cs, h1⟩ := nok_text n h
  rw [h1.tx, dcs_encs cs h1.sc]

/-- What tokens does at shorter rows of nodes. -/
def TkIH (N : Nat) : Prop := ∀ (l : List ND) (d : Int) (v : Value) (w : World), l.length < N → SlC w v l → l.length ≤ 1000 → 0 ≤ d → (∀ n ∈ l, NOk n ∧ n.d ≤ 64) →
  Calls Tryz.prog 26 #[v, .int .i64 d] w fun e w' => TkR d l w e w'
theorem toks_step (l : List ND) (d : Int) (v : Value) (w : World) (hIH : TkIH l.length) (hx : SlC w v l) (hl : l.length ≤ 1000) (hd0 : 0 ≤ d) (hok : ∀ n ∈ l, NOk n ∧ n.d ≤ 64) :
    Calls Tryz.prog 26 #[v, .int .i64 d] w fun e w' => TkR d l w e w' := by
  obtain ⟨Ax, cx, rfl, hcap, hx⟩ := hx
  have HX := Lib.hid hx
  have HIH := Lib.hid hIH
  have HOK := Lib.hid hok
  have h0 : TsI w d l (.slice none 0 0) (.int .i64 0) w 0 l [] := ⟨rfl, Nat.zero_le _, Nat.le_refl _, rfl, Kp.refl _ _, World.ownsRow_nil _ _ _ _, by simp, by simp, rfl⟩
  have H0 := Lib.hid h0
  clear h0 hx hok hIH
  go_enter Tryz.func26, Tryz.ntmps26
  go_wp2
  go_loopw [6, 7] (fun a i wr => ∃ dn rs bs, TsI w d l a i wr dn rs bs) (fun _ i _ => l.length - (intOf i).toNat)
  case atStart => exact ⟨_, _, _, H0.out⟩
  case round =>
    obtain ⟨dn, rs, bs, hI⟩ := hrel
    have q2 := hI.i
    subst q2
    have hle := hI.le
    have hsz := hI.sz
    match rs, hI with
    | [], hI =>
      have hdl : dn = l.length := by
        have := congrArg List.length hI.eq
        simp at this; omega
      have HI := Lib.hid hI
      clear hI
      subst hdl
      go_wp2
      go_ret2
      exact HI.out.done rfl
    | t :: r, hI =>
      have hi : dn < l.length := by
        have := congrArg List.length hI.eq
        simp at this; omega
      have hgt : l[dn]? = some t := by
        have := congrArg (fun x => x[0]?) hI.eq
        simpa using this.symm
      obtain ⟨b, o, rfl, hcx⟩ : ∃ b o, Ax = some ⟨b, o, none⟩ ∧ ∀ i n, l[i]? = some n → ∀ j u, n.cells[j]? = some u → w.cell? ⟨b, o + i * 6 + j, none⟩ = some u := by
        rcases HX.out with h | h
        · subst h; simp at hi
        · exact h
      have hc : ∀ j u, t.cells[j]? = some u → wr.cell? ⟨b, o + dn * 6 + j, none⟩ = some u := fun j u hu => by
        have := hcx dn t hgt j u hu
        have hlt : b < w.heap.size := World.block_lt_of_cell? w _ this
        rw [World.cell?_of_block (w := w) (hI.kp.block b hlt (fun f => f))]; exact this
      have HCX := Lib.hid hcx
      have htn := HOK.out t (List.mem_of_getElem? hgt)
      obtain ⟨k0, k1⟩ := nok_k htn.1
      have htx := nok_tx htn.1
      have htd := htn.2
      have c0 := hc 0 _ rfl
      have c1 := hc 1 _ rfl
      have c2 := hc 2 _ rfl
      have c3 := hc 3 _ rfl
      have c4 := hc 4 _ rfl
      have c5 := hc 5 _ rfl
      simp only [Nat.add_zero] at c0
      have HI := Lib.hid hI
      have HTX := Lib.hid htx
      clear hI hc htn htx hcx hgt
      by_cases hdd : t.d < d
      · go_wp2
        go_ret2
        exact HI.out.done (by rw [bldL_cons, if_pos hdd])
      have hde : d ≤ t.d := by omega
      have htd0 : 0 ≤ t.d := by omega
      obtain ⟨u, hu⟩ : ∃ u, IntKind.u16.wrap t.un = u := ⟨_, rfl⟩
      have HU := Lib.hid hu
      go_upto_region 6 with fail
      have hkA : Kp (fun _ => False) wr ((wr.alloc (.cells #[.int .i64 t.k, .int .i64 t.un, .int .i64 t.d, .string (bstr t.tx), .bool t.bf, .bool t.af] 25)).alloc (.cells #[.pointer none, .string (bstr t.tx), .int .i32 0, .int .u32 0, .int .u16 u, .int .u8 t.k, .int .u8 0] 100)) := ((Kp.refl _ wr).alloc _).alloc _
      have hb8 : ((wr.alloc (.cells #[.int .i64 t.k, .int .i64 t.un, .int .i64 t.d, .string (bstr t.tx), .bool t.bf, .bool t.af] 25)).alloc (.cells #[.pointer none, .string (bstr t.tx), .int .i32 0, .int .u32 0, .int .u16 u, .int .u8 t.k, .int .u8 0] 100)).heap[wr.heap.size]? = some (.cells #[.int .i64 t.k, .int .i64 t.un, .int .i64 t.d, .string (bstr t.tx), .bool t.bf, .bool t.af] 25) := by
        rw [Below.heap_alloc _ _ _ (by simp)]; exact heap_alloc_new wr _
      have hb9 : ((wr.alloc (.cells #[.int .i64 t.k, .int .i64 t.un, .int .i64 t.d, .string (bstr t.tx), .bool t.bf, .bool t.af] 25)).alloc (.cells #[.pointer none, .string (bstr t.tx), .int .i32 0, .int .u32 0, .int .u16 u, .int .u8 t.k, .int .u8 0] 100)).heap[wr.heap.size + 1]? = some (.cells #[.pointer none, .string (bstr t.tx), .int .i32 0, .int .u32 0, .int .u16 u, .int .u8 t.k, .int .u8 0] 100) := by
        have := heap_alloc_new (wr.alloc (.cells #[.int .i64 t.k, .int .i64 t.un, .int .i64 t.d, .string (bstr t.tx), .bool t.bf, .bool t.af] 25)) (.cells #[.pointer none, .string (bstr t.tx), .int .i32 0, .int .u32 0, .int .u16 u, .int .u8 t.k, .int .u8 0] 100)
        rwa [show (wr.alloc (.cells #[.int .i64 t.k, .int .i64 t.un, .int .i64 t.d, .string (bstr t.tx), .bool t.bf, .bool t.af] 25)).heap.size = wr.heap.size + 1 by simp] at this
      generalize (wr.alloc (.cells #[.int .i64 t.k, .int .i64 t.un, .int .i64 t.d, .string (bstr t.tx), .bool t.bf, .bool t.af] 25)).alloc (.cells #[.pointer none, .string (bstr t.tx), .int .i32 0, .int .u32 0, .int .u16 u, .int .u8 t.k, .int .u8 0] 100) = w2 at *
      have HKA := Lib.hid hkA
      have HB8 := Lib.hid hb8
      have HB9 := Lib.hid hb9
      have hlt9 : wr.heap.size + 1 < w2.heap.size := (Array.getElem?_eq_some_iff.1 hb9).1
      clear hkA hb8 hb9 c0 c1 c2 c3 c4 c5 hu
      obtain ⟨e0, e1, e2, e3, e4, e5⟩ := cells6n HB8.out
      obtain ⟨f0, f1, f2, f3, f4, f5, f6⟩ := cells7 HB9.out
      have ff : w2.frozen? ⟨wr.heap.size + 1, 6, none⟩ = false := by unfold World.frozen?; rw [HB9.out]; simp
      have e01 : bits .or .u8 0 1 = 1 := by decide
      go_upto_if 39 with fail
      go_cut [] (fun wx => Kp (fun k => k = wr.heap.size + 1) w2 wx ∧ wx.heap[wr.heap.size + 1]? = some (.cells #[.pointer none, .string (bstr t.tx), .int .i32 0, .int .u32 0, .int .u16 u, .int .u8 t.k, .int .u8 (if t.bf then 1 else 0)] 100))
      case first =>
        cases hbf : t.bf
        · go_wp2
          go_meet
          exact ⟨Kp.refl _ _, by simpa [hbf] using HB9.out⟩
        · go_wp2
          go_meet
          exact ⟨kpSet7 _ _ _ _, by rw [hbf]; exact blk7 HB9.out _⟩
      case rest =>
      obtain ⟨hkC, hb9⟩ := hcut
      have hb8 : wc.heap[wr.heap.size]? = some (.cells #[.int .i64 t.k, .int .i64 t.un, .int .i64 t.d, .string (bstr t.tx), .bool t.bf, .bool t.af] 25) := by
        have hne : wr.heap.size ≠ wr.heap.size + 1 := by omega
        rw [hkC.block wr.heap.size (by omega) hne]; exact HB8.out
      have HKC := Lib.hid hkC
      have HB9c := Lib.hid hb9
      have HB8c := Lib.hid hb8
      have hlt9c : wr.heap.size + 1 < wc.heap.size := (Array.getElem?_eq_some_iff.1 hb9).1
      clear hkC hb8 hb9 e0 e1 e2 e3 e4 e5 f0 f1 f2 f3 f4 f5 f6 ff
      obtain ⟨e0, e1, e2, e3, e4, e5⟩ := cells6n HB8c.out
      obtain ⟨f0, f1, f2, f3, f4, f5, f6⟩ := cells7 HB9c.out
      have ff : wc.frozen? ⟨wr.heap.size + 1, 6, none⟩ = false := by unfold World.frozen?; rw [HB9c.out]; simp
      obtain ⟨bw, hbw⟩ : ∃ x : Int, x = if t.bf then 1 else 0 := ⟨_, rfl⟩
      rw [← hbw] at f6
      have hbw2 : bits .or .u8 bw 2 = bw + 2 := by rw [hbw]; cases t.bf <;> decide
      have HBW := Lib.hid hbw
      clear hbw
      go_upto_if 45 with fail
      go_cut [] (fun wx => Kp (fun k => k = wr.heap.size + 1) wc wx ∧ wx.heap[wr.heap.size + 1]? = some (.cells #[.pointer none, .string (bstr t.tx), .int .i32 0, .int .u32 0, .int .u16 u, .int .u8 t.k, .int .u8 (wsOf t)] 100))
      case first =>
        cases haf : t.af
        · go_wp2
          go_meet
          refine ⟨Kp.refl _ _, ?_⟩
          have e : wsOf t = if t.bf then 1 else 0 := by simp [wsOf, haf]
          rw [e]; exact HB9c.out
        · go_wp2
          go_meet
          refine ⟨kpSet7 _ _ _ _, ?_⟩
          have e : wsOf t = bw + 2 := by rw [HBW.out]; simp [wsOf, haf]
          rw [e]; exact blk7 HB9c.out _
      case rest =>
      rename_i wb
      obtain ⟨hkD, hb9⟩ := hcut
      have hb8 : wc.heap[wr.heap.size]? = some (.cells #[.int .i64 t.k, .int .i64 t.un, .int .i64 t.d, .string (bstr t.tx), .bool t.bf, .bool t.af] 25) := by
        have hne : wr.heap.size ≠ wr.heap.size + 1 := by omega
        rw [hkD.block wr.heap.size (by omega) hne]; exact HB8c.out
      have hkk : Kp (fun k => k = wr.heap.size + 1) wr wc := ((HKA.out.mono (T := fun k => k = wr.heap.size + 1) (fun _ _ f => f.elim)).trans HKC.out).trans hkD
      have hlt9d : wr.heap.size + 1 < wc.heap.size := (Array.getElem?_eq_some_iff.1 hb9).1
      have HKK := Lib.hid hkk
      have HB9d := Lib.hid hb9
      have HB8d := Lib.hid hb8
      clear hkD hkk hb8 hb9 e0 e1 e2 e3 e4 e5 f0 f1 f2 f3 f4 f5 f6 ff e01 hbw2
      obtain ⟨e0, e1, e2, e3, e4, e5⟩ := cells6n HB8d.out
      obtain ⟨f0, f1, f2, f3, f4, f5, f6⟩ := cells7 HB9d.out
      have hown : Hid (wc.ownsRow w.heap.size 100 7 u6 bs.length (bs.flatMap Bt.cells)) := Lib.hid (own_kp HI.out.own HKK.out (fun k hk e => by have := (own_lt HI.out.own k hk).2.1; omega))
      have hw0 : w.heap.size ≤ wr.heap.size := HI.out.kp.size
      have hu6 : ∀ k, u6.ownBlock = some k → w.heap.size ≤ k ∧ k < wr.heap.size := fun k hk => ⟨(own_lt HI.out.own k hk).1, (own_lt HI.out.own k hk).2.1⟩
      have HU6 := Lib.hid hu6
      have HKW : Hid (Kp (fun _ => False) w wc) := Lib.hid (HI.out.kp.trans' HKK.out (fun k hk e => by omega))
      clear hu6
      obtain ⟨b1, hb1⟩ : ∃ b, (t.k == 27) = b := ⟨_, rfl⟩
      obtain ⟨b2, hb2⟩ : ∃ b, (t.k == 31) = b := ⟨_, rfl⟩
      obtain ⟨b3, hb3⟩ : ∃ b, (t.k == 32) = b := ⟨_, rfl⟩
      obtain ⟨b4, hb4⟩ : ∃ b, (t.k == 33) = b := ⟨_, rfl⟩
      have HOP : Hid ((b1 || b2 || b3 || b4) = opN t.k) := Lib.hid (by
        rw [← hb1, ← hb2, ← hb3, ← hb4]
        exact opN_b t.k)
      go_upto_if 54 with fail
      go_cut [54] (fun x wx => x = .bool (opN t.k) ∧ wx = wc)
      case first =>
        cases b1
        case true =>
          go_wp2
          go_meet
          exact ⟨by rw [← HOP.out]; rfl, rfl⟩
        case false =>
        cases b2
        case true =>
          go_wp2
          go_meet
          exact ⟨by rw [← HOP.out]; rfl, rfl⟩
        case false =>
        cases b3
        case true =>
          go_wp2
          go_meet
          exact ⟨by rw [← HOP.out]; rfl, rfl⟩
        case false =>
          go_wp2
          go_meet
          exact ⟨by rw [← HOP.out]; simp, rfl⟩
      case rest =>
      obtain ⟨rfl, rfl⟩ := hcut
      clear hb1 hb2 hb3 hb4 HOP
      obtain ⟨ob, hob⟩ : ∃ b, opN t.k = b := ⟨_, rfl⟩
      rw [hob]
      have HOB := Lib.hid hob
      clear hob
      cases ob
      · have HNW := Lib.hid (World.news_of_block (heap_alloc_new wc (.cells #[.pointer none, .string (bstr t.tx), .int .i32 0, .int .u32 0, .int .u16 u, .int .u8 t.k, .int .u8 (wsOf t)] 100)))
        go_wp2_with (at_builtin; refine app_tok (.tmp 73) (.tmp 75) rfl rfl w.heap.size u6 bs.length _ rfl (World.ownsRow.alloc hown.out _) ⟨wc.heap.size, 0, none⟩ [.pointer none, .string (bstr t.tx), .int .i32 0, .int .u32 0, .int .u16 u, .int .u8 t.k, .int .u8 (wsOf t)] rfl rfl HNW.out ?c1 ?c3 ?c5 ?_)
        case c1 => exact ⟨rfl, rfl, rfl, rfl, rfl, rfl, rfl⟩
        case c3 => omega
        case c5 => have := HKW.out.size; exact Nat.le_trans this (by simp)
        intro v' w5 hown' hgrow hpl
        have HO5 := Lib.hid hown'
        have HG5 := Lib.hid hgrow
        have HP5 := Lib.hid hpl
        clear hown' hgrow hpl
        go_wp2
        have hu2 : u = t.un % 65536 := by rw [← HU.out]; simp [IntKind.wrap, IntKind.bits, IntKind.signed]
        have hr' : r = l.drop (dn + 1) := by
          have e : l.drop (dn + 1) = (l.drop dn).drop 1 := by rw [List.drop_drop]
          rw [e, ← HI.out.eq]; rfl
        refine ⟨⟨dn + 1, r, bs ++ [⟨t, .pointer none, none⟩], TsI.step HI.out ((HKK.out.alloc _).mono fun k _ e => by omega) HG5.out (fun k hk => by have := HP5.out k hk; simpa using this) _ _ ?_ .none HTX.out (dn + 1) r _ (by simp) hr' (by omega) (by omega) ?_⟩, ?_⟩
        · have := HO5.out
          rw [hu2] at this
          exact this
        · rw [bldL_cons, if_neg (by omega), HOB.out]; rfl
        · simp [intOf]; omega
      · have hrl : r.length = l.length - (dn + 1) := by
          have := congrArg List.length HI.out.eq
          simp at this; omega
        have hr' : r = l.drop (dn + 1) := by
          have e : l.drop (dn + 1) = (l.drop dn).drop 1 := by rw [List.drop_drop]
          rw [e, ← HI.out.eq]; rfl
        obtain ⟨A', hA⟩ : ∃ A', (if cx = dn + 1 then (some ⟨b, o, none⟩ : Option Addr) else some ⟨b, o + (dn + 1) * 6, none⟩) = A' := ⟨_, rfl⟩
        have HA := Lib.hid hA
        have HRL := Lib.hid hrl
        have HR := Lib.hid hr'
        have HC : Hid (∀ w', Kp (fun _ => False) wc w' → Calls Tryz.prog 26 #[.slice A' (l.length - (dn + 1)) (cx - (dn + 1)), .int .i64 (t.d + 1)] w' fun e w'' => TkR (t.d + 1) r w' e w'') := Lib.hid fun w' hk => by
          have hs := (SlC.drop HCX.out hcap (dn + 1) (by omega) A' HA.out (l.length - (dn + 1)) (by simp)).kp (HKW.out.trans hk)
          rw [← HR.out] at hs
          refine HIH.out r (t.d + 1) _ w' (by omega) hs (by omega) (by omega) fun n hn => HOK.out n ?_
          rw [HR.out] at hn
          exact List.mem_of_mem_drop hn
        clear hA hrl hr'
        go_upto_region 16 with fail
        go_cut [10, 11] (fun t10 t11 wx => ∃ bi v9 n9, t10 = .pointer (some ⟨bi, 0, none⟩) ∧ t11 = .int .i64 n9 ∧ n9 = ((r.length - (bldL (t.d + 1) r).2.length : Nat) : Int) ∧ wc.heap.size ≤ bi ∧ wx.cell? ⟨bi, 0, none⟩ = some v9 ∧ RowAt wx (fun k => wc.heap.size ≤ k ∧ k < wx.heap.size) v9 (bldL (t.d + 1) r).1 ∧ Kp (fun _ => False) wc wx)
        case first =>
          refine wp_region_held_drew (S := fun w' => w'.cell? ⟨wr.heap.size, 2, none⟩ = some (.int .i64 t.d)) (by kernel_rfl) e2 (fun hHeld => ?_)
          refine wpAnyH_take (i := 0) (oi := ⟨some 60, _, _, _, _, _⟩) (v := .slice (some ⟨b, o, none⟩) l.length cx) rfl (by kernel_rfl) (by kernel_rfl) (by kernel_rfl) (fun _ _ _ h => h) (Or.inl ⟨by kernel_rfl, ?_⟩) (by assumption) ?_
          · (intro w' hS; go_simp)
          simp only [Act.put, List.setIfInBounds_toArray, List.set_cons_zero, List.set_cons_succ]
          refine wpAnyH_take (i := 1) (oi := ⟨some 61, _, _, _, _, _⟩) (v := .int .i64 ((dn : Int) + 1)) rfl (by kernel_rfl) (by kernel_rfl) (by kernel_rfl) (fun _ _ _ h => h) (Or.inl ⟨by kernel_rfl, ?_⟩) (by assumption) ?_
          · (intro w' hS; go_simp)
          simp only [Act.put, List.setIfInBounds_toArray, List.set_cons_zero, List.set_cons_succ]
          refine wpAnyH_take (i := 2) (oi := ⟨some 62, _, _, _, _, _⟩) (v := .slice A' (l.length - (dn + 1)) (cx - (dn + 1))) rfl (by kernel_rfl) (by kernel_rfl) (by kernel_rfl) (fun _ _ _ h => h) (Or.inl ⟨by kernel_rfl, ?_⟩) (by assumption) ?_
          · (intro w' hS; rw [← HA.out]; go_simp; intro hq; exfalso; have := hq (by omega); omega)
          simp only [Act.put, List.setIfInBounds_toArray, List.set_cons_zero, List.set_cons_succ]
          refine wpAnyH_take (i := 3) (oi := ⟨some 63, _, _, _, _, _⟩) (v := .pointer (some ⟨wr.heap.size, 2, none⟩)) rfl (by kernel_rfl) (by kernel_rfl) (by kernel_rfl) (fun _ _ _ h => h) (Or.inl ⟨by kernel_rfl, ?_⟩) (by assumption) ?_
          · (intro w' hS; go_simp)
          simp only [Act.put, List.setIfInBounds_toArray, List.set_cons_zero, List.set_cons_succ]
          refine wpAnyH_take (i := 4) (oi := ⟨some 64, _, _, _, _, _⟩) (v := .int .i64 t.d) rfl (by kernel_rfl) (by kernel_rfl) (by kernel_rfl) (fun _ _ _ h => h) (Or.inl ⟨by kernel_rfl, ?_⟩) (by assumption) ?_
          · (intro w' hS; go_simp)
          simp only [Act.put, List.setIfInBounds_toArray, List.set_cons_zero, List.set_cons_succ]
          refine wpAnyH_take (i := 5) (oi := ⟨some 65, _, _, _, _, _⟩) (v := .int .i64 (t.d + 1)) rfl (by kernel_rfl) (by kernel_rfl) (by kernel_rfl) (fun _ _ _ h => h) (Or.inl ⟨by kernel_rfl, ?_⟩) (by assumption) ?_
          · (intro w' hS; first | (go_simp; done) | (go_simp; exact wraps_i64 _ (by omega) (by omega)))
          simp only [Act.put, List.setIfInBounds_toArray, List.set_cons_zero, List.set_cons_succ]
          refine wpAnyH_ready (rs := [6, 10]) (by kernel_rfl) (by simp) ?_
          refine AllReadyH.cons (o := ⟨some 66, _, _, _, _, _⟩) rfl (fun K hK => ?_) (AllReadyH.cons (o := ⟨some 10, _, _, _, _, _⟩) rfl (fun K hK => ?_) AllReadyH.nil)
          · go_simp
            go_wp2_with (go_at_call 26; refine (HC.out _ (by first | exact (Kp.refl _ _).drew | exact Kp.refl _ _)).mono ?_)
            rintro e w9 ⟨v9, n9, rfl, hn9, hr9, hk9⟩
            obtain ⟨A9, c9, rfl, -⟩ := hr9.len
            generalize (bldL (t.d + 1) r).1.length = k9 at *
            have hkc9 : Kp (fun _ => False) wc w9 := by first | exact ((Kp.refl _ _).drew).trans hk9 | exact hk9
            have e29 : w9.cell? ⟨wr.heap.size, 2, none⟩ = some (.int .i64 t.d) := by rw [World.cell?_of_block (w := wc) (hkc9.block wr.heap.size (by omega) (fun f => f))]; exact e2
            refine hK.out _ _ e29 (fun hHeld2 => ?_)
            try simp only [Act.put, List.setIfInBounds_toArray, List.set_cons_zero, List.set_cons_succ]
            refine wpAnyH_take (i := 7) (oi := ⟨some 59, _, _, _, _, _⟩) (v := .tuple #[.slice A9 k9 c9, .int .i64 n9]) rfl (by kernel_rfl) (by kernel_rfl) (by kernel_rfl) (fun _ _ _ h => h) (Or.inl ⟨by kernel_rfl, ?_⟩) (by assumption) ?_
            · (intro w' hS; go_simp)
            simp only [Act.put, List.setIfInBounds_toArray, List.set_cons_zero, List.set_cons_succ]
            refine wpAnyH_take (i := 8) (oi := ⟨some 67, _, _, _, _, _⟩) (v := .slice A9 k9 c9) rfl (by kernel_rfl) (by kernel_rfl) (by kernel_rfl) (fun _ _ _ h => h) (Or.inl ⟨by kernel_rfl, ?_⟩) (by assumption) ?_
            · (intro w' hS; go_simp)
            simp only [Act.put, List.setIfInBounds_toArray, List.set_cons_zero, List.set_cons_succ]
            refine wpAnyH_take (i := 9) (oi := ⟨some 68, _, _, _, _, _⟩) (v := .int .i64 n9) rfl (by kernel_rfl) (by kernel_rfl) (by kernel_rfl) (fun _ _ _ h => h) (Or.inl ⟨by kernel_rfl, ?_⟩) (by assumption) ?_
            · (intro w' hS; go_simp)
            simp only [Act.put, List.setIfInBounds_toArray, List.set_cons_zero, List.set_cons_succ]
            refine wpAnyH_ready (rs := [10]) (by kernel_rfl) (by simp) ?_
            refine AllReadyH.cons (o := ⟨some 10, _, _, _, _, _⟩) rfl (fun K hK => ?_) AllReadyH.nil
            go_simp
            refine hK.out _ _ (by first | assumption | go_keep) (fun _ => ?_)
            try simp only [Act.put, List.setIfInBounds_toArray, List.set_cons_zero, List.set_cons_succ]
            refine wpAnyH_ready (rs := [11]) (by kernel_rfl) (by simp) ?_
            refine AllReadyH.cons (o := ⟨none, _, _, _, _, _⟩) rfl (fun K hK => ?_) AllReadyH.nil
            go_simp
            refine hK.out _ _ (by first | assumption | go_keep) (fun _ => ?_)
            try simp only [Act.put, List.setIfInBounds_toArray, List.set_cons_zero, List.set_cons_succ]
            refine wpAnyH_take (i := 12) (oi := ⟨some 11, _, _, _, _, _⟩) (v := .int .i64 n9) rfl (by kernel_rfl) (by kernel_rfl) (by kernel_rfl) (fun _ _ _ h => h) (Or.inl ⟨by kernel_rfl, ?_⟩) (by assumption) ?_
            · (intro w' hS; go_simp)
            simp only [Act.put, List.setIfInBounds_toArray, List.set_cons_zero, List.set_cons_succ]
            refine wpAnyH_done (by kernel_rfl) ?_ _
            go_wp2
            go_meet
            exact ⟨w9.heap.size, .slice A9 k9 c9, n9, rfl, rfl, hn9, hkc9.size, by rw [World.cell?, heap_alloc_new]; rfl, (hr9.kp (S := fun _ => False) ((Kp.refl _ w9).alloc _) (fun k hk => hk.2) (fun _ f => f.elim)).mono (fun k hk => ⟨hk.1, Nat.lt_of_lt_of_le hk.2 (by simp)⟩), hkc9.alloc _⟩
          · go_simp
            refine hK.out _ _ (by first | assumption | go_keep) (fun hHeld2 => ?_)
            try simp only [Act.put, List.setIfInBounds_toArray, List.set_cons_zero, List.set_cons_succ]
            refine wpAnyH_ready (rs := [6]) (by kernel_rfl) (by simp) ?_
            refine AllReadyH.cons (o := ⟨some 66, _, _, _, _, _⟩) rfl (fun K hK => ?_) AllReadyH.nil
            go_simp
            go_wp2_with (go_at_call 26; refine (HC.out _ (by first | exact ((Kp.refl _ _).drew).alloc _ | exact ((Kp.refl _ _).alloc _).drew | exact (Kp.refl _ _).alloc _)).mono ?_)
            rintro e w9 ⟨v9, n9, rfl, hn9, hr9, hk9⟩
            obtain ⟨A9, c9, rfl, -⟩ := hr9.len
            generalize (bldL (t.d + 1) r).1.length = k9 at *
            have hkA9 : Kp (fun _ => False) (wc.alloc (.cells #[.slice none 0 0] 55)) w9 := ((Kp.refl _ _).drew).trans hk9
            have hkc9 : Kp (fun _ => False) wc w9 := ((Kp.refl _ wc).alloc _).trans hkA9
            have hb10 : w9.heap[wc.heap.size]? = some (.cells #[.slice none 0 0] 55) := (hkA9.block wc.heap.size (by simp) (fun f => f)).trans (heap_alloc_new wc _)
            have q10 : w9.cell? ⟨wc.heap.size, 0, none⟩ = some (.slice none 0 0) := by simp [World.cell?, hb10]
            have qf10 : w9.frozen? ⟨wc.heap.size, 0, none⟩ = false := by unfold World.frozen?; rw [hb10]; simp
            have e29 : w9.cell? ⟨wr.heap.size, 2, none⟩ = some (.int .i64 t.d) := by rw [World.cell?_of_block (w := wc) (hkc9.block wr.heap.size (by omega) (fun f => f))]; exact e2
            have hr9' : RowAt w9 (fun k => wc.heap.size + 1 ≤ k ∧ k < w9.heap.size) (.slice A9 k9 c9) (bldL (t.d + 1) r).1 := hr9.mono (fun k hk => ⟨by have := hk.1; simpa using this, hk.2⟩)
            have es9 : (w9.setCell ⟨wc.heap.size, 0, none⟩ (.slice A9 k9 c9)).cell? ⟨wr.heap.size, 2, none⟩ = some (.int .i64 t.d) := by
              have hne : wr.heap.size ≠ wc.heap.size := by omega
              rw [World.cell?_of_block (w := w9) ((kpSet7 w9 wc.heap.size 0 (.slice A9 k9 c9)).block wr.heap.size (by have := hkc9.size; omega) hne)]; exact e29
            have HR9 := Lib.hid hr9'
            have HKC9 := Lib.hid hkc9
            clear hr9 hr9' hkA9 hk9 hkc9
            refine hK.out _ _ e29 (fun hHeld3 => ?_)
            try simp only [Act.put, List.setIfInBounds_toArray, List.set_cons_zero, List.set_cons_succ]
            refine wpAnyH_take (i := 7) (oi := ⟨some 59, _, _, _, _, _⟩) (v := .tuple #[.slice A9 k9 c9, .int .i64 n9]) rfl (by kernel_rfl) (by kernel_rfl) (by kernel_rfl) (fun _ _ _ h => h) (Or.inl ⟨by kernel_rfl, ?_⟩) (by assumption) ?_
            · (intro w' hS; go_simp)
            simp only [Act.put, List.setIfInBounds_toArray, List.set_cons_zero, List.set_cons_succ]
            refine wpAnyH_take (i := 8) (oi := ⟨some 67, _, _, _, _, _⟩) (v := .slice A9 k9 c9) rfl (by kernel_rfl) (by kernel_rfl) (by kernel_rfl) (fun _ _ _ h => h) (Or.inl ⟨by kernel_rfl, ?_⟩) (by assumption) ?_
            · (intro w' hS; go_simp)
            simp only [Act.put, List.setIfInBounds_toArray, List.set_cons_zero, List.set_cons_succ]
            refine wpAnyH_take (i := 9) (oi := ⟨some 68, _, _, _, _, _⟩) (v := .int .i64 n9) rfl (by kernel_rfl) (by kernel_rfl) (by kernel_rfl) (fun _ _ _ h => h) (Or.inl ⟨by kernel_rfl, ?_⟩) (by assumption) ?_
            · (intro w' hS; go_simp)
            simp only [Act.put, List.setIfInBounds_toArray, List.set_cons_zero, List.set_cons_succ]
            refine wpAnyH_ready (rs := [11]) (by kernel_rfl) (by simp) ?_
            refine AllReadyH.cons (o := ⟨none, _, _, _, _, _⟩) rfl (fun K hK => ?_) AllReadyH.nil
            go_simp
            refine hK.out _ _ (by first | assumption | go_keep) (fun _ => ?_)
            try simp only [Act.put, List.setIfInBounds_toArray, List.set_cons_zero, List.set_cons_succ]
            refine wpAnyH_take (i := 12) (oi := ⟨some 11, _, _, _, _, _⟩) (v := .int .i64 n9) rfl (by kernel_rfl) (by kernel_rfl) (by kernel_rfl) (fun _ _ _ h => h) (Or.inl ⟨by kernel_rfl, ?_⟩) (by assumption) ?_
            · (intro w' hS; go_simp)
            simp only [Act.put, List.setIfInBounds_toArray, List.set_cons_zero, List.set_cons_succ]
            refine wpAnyH_done (by kernel_rfl) ?_ _
            go_wp2
            go_meet
            exact ⟨wc.heap.size, .slice A9 k9 c9, n9, rfl, rfl, hn9, Nat.le_refl _, by simp [World.cell?, World.setCell, Array.getElem?_modify, hb10], (HR9.out.kp (kpSet7 w9 wc.heap.size 0 _) (fun k hk => hk.2) (fun k e hk => by have := hk.1; omega)).mono (fun k hk => ⟨by have := hk.1; omega, by simpa [World.setCell] using hk.2⟩), HKC9.out.setCell (.inr (Nat.le_refl _)) _⟩
        case rest =>
        obtain ⟨bi, v9, n9, rfl, rfl, hn9, hbi, hcb, hr9, hkE⟩ := hcut
        rename_i wb
        obtain ⟨kk, hkk⟩ : ∃ kk : Nat, kk = r.length - (bldL (t.d + 1) r).2.length := ⟨_, rfl⟩
        rw [← hkk] at hn9
        subst hn9
        have hkl : kk ≤ r.length := by omega
        have hkr : kk ≤ 1000 := by have := HRL.out; omega
        have hb9e : wc.heap[wr.heap.size + 1]? = some (.cells #[.pointer none, .string (bstr t.tx), .int .i32 0, .int .u32 0, .int .u16 u, .int .u8 t.k, .int .u8 (wsOf t)] 100) := by
          rw [hkE.block (wr.heap.size + 1) hlt9d (fun f => f)]; exact HB9d.out
        have HB9e := Lib.hid hb9e
        have HKE := Lib.hid hkE
        have HCB := Lib.hid hcb
        have HR9 := Lib.hid hr9
        have HKK2 := Lib.hid hkk
        have HKL := Lib.hid hkl
        have hlt9e : wr.heap.size + 1 < wc.heap.size := (Array.getElem?_eq_some_iff.1 hb9e).1
        have hbil : bi < wc.heap.size := World.block_lt_of_cell? wc _ hcb
        clear hkE hb9e hcb hr9 hkk hkl f0 f1 f2 f3 f4 f5 f6 e0 e1 e2 e3 e4 e5
        obtain ⟨f0, f1, f2, f3, f4, f5, f6⟩ := cells7 HB9e.out
        have ff : wc.frozen? ⟨wr.heap.size + 1, 0, none⟩ = false := by unfold World.frozen?; rw [HB9e.out]; simp
        have hbs := blk70 HB9e.out (.pointer (some ⟨bi, 0, none⟩))
        have hks := kpSet7 wc (wr.heap.size + 1) 0 (.pointer (some ⟨bi, 0, none⟩))
        go_upto_region 19 with fail
        generalize wc.setCell ⟨wr.heap.size + 1, 0, none⟩ (.pointer (some ⟨bi, 0, none⟩)) = w4 at *
        have HBS := Lib.hid hbs
        have hk4 : Kp (fun k => k = wr.heap.size + 1) wr w4 := (HKK.out.trans' HKE.out (fun _ _ f => f.elim)).trans hks
        have HK4 := Lib.hid hk4
        have HKW4 : Hid (Kp (fun _ => False) w w4) := Lib.hid (HI.out.kp.trans' hk4 (fun k hk e => by omega))
        have hown4 : Hid (w4.ownsRow w.heap.size 100 7 u6 bs.length (bs.flatMap Bt.cells)) := Lib.hid (own_kp HI.out.own hk4 (fun k hk e => by have := (HU6.out k hk).2; omega))
        have hcb4 : w4.cell? ⟨bi, 0, none⟩ = some v9 := by
          have hne : bi ≠ wr.heap.size + 1 := by omega
          rw [World.cell?_of_block (w := wc) (hks.block bi hbil hne)]; exact HCB.out
        have HOPT : Hid (OptAt w4 (fun k => wr.heap.size ≤ k ∧ k < w4.heap.size) (.pointer (some ⟨bi, 0, none⟩)) (some (bldL (t.d + 1) r).1)) := Lib.hid (by
          have hs4 := hks.size
          refine .some bi v9 _ ⟨by omega, by omega⟩ hcb4 ?_
          exact (HR9.out.kp hks (fun k hk => hk.2) (fun k e hk => by have := hk.1; omega)).mono (fun k hk => ⟨by have := hk.1; omega, by have := hk.2; omega⟩))
        have HNW := Lib.hid (World.news_of_block (heap_alloc_new w4 (.cells #[.pointer (some ⟨bi, 0, none⟩), .string (bstr t.tx), .int .i32 0, .int .u32 0, .int .u16 u, .int .u8 t.k, .int .u8 (wsOf t)] 100)))
        clear hks hk4 hcb4 f0 f1 f2 f3 f4 f5 f6 ff
        obtain ⟨f0, f1, f2, f3, f4, f5, f6⟩ := cells7 hbs
        clear hbs
        go_wp2_with (at_builtin; refine app_tok (.tmp 73) (.tmp 75) rfl rfl w.heap.size u6 bs.length _ rfl (World.ownsRow.alloc hown4.out _) ⟨w4.heap.size, 0, none⟩ [.pointer (some ⟨bi, 0, none⟩), .string (bstr t.tx), .int .i32 0, .int .u32 0, .int .u16 u, .int .u8 t.k, .int .u8 (wsOf t)] rfl rfl HNW.out ?c1 ?c3 ?c5 ?_)
        case c1 => exact ⟨rfl, rfl, rfl, rfl, rfl, rfl, rfl⟩
        case c3 => omega
        case c5 => have := HKW4.out.size; exact Nat.le_trans this (by simp)
        intro v' w5 hown' hgrow hpl
        have HO5 := Lib.hid hown'
        have HG5 := Lib.hid hgrow
        have HP5 := Lib.hid hpl
        clear hown' hgrow hpl
        go_wp2
        have hu2 : u = t.un % 65536 := by rw [← HU.out]; simp [IntKind.wrap, IntKind.bits, IntKind.signed]
        have hrr : (bldL (t.d + 1) r).2 = l.drop (dn + 1 + kk) := by
          have e := bldL_drop (t.d + 1) r
          rw [← HKK2.out] at e
          rw [e, ← List.drop_drop, ← HR.out]
        have hk9 := HKL.out
        have hrl := HRL.out
        refine ⟨⟨dn + 1 + kk, (bldL (t.d + 1) r).2, bs ++ [⟨t, .pointer (some ⟨bi, 0, none⟩), some (bldL (t.d + 1) r).1⟩], TsI.step HI.out ((HK4.out.alloc _).mono fun k _ e => by omega) HG5.out (fun k hk => by have := HP5.out k hk; simpa using this) _ _ ?_ ?_ HTX.out (dn + 1 + kk) _ _ (by simp) hrr (by omega) (by omega) ?_⟩, ?_⟩
        · have := HO5.out
          rw [hu2] at this
          exact this
        · exact (HOPT.out.kp ((Kp.refl (fun _ => False) w4).alloc _) (fun k hk => hk.2) (fun _ f => f.elim)).mono (fun k hk => ⟨hk.1, Nat.lt_of_lt_of_le hk.2 (by simp)⟩)
        · rw [bldL_cons, if_neg (by omega), HOB.out]; rfl
        · simp [intOf]; omega
theorem toks_any : ∀ (N : Nat) (l : List ND) (d : Int) (v : Value) (w : World), l.length < N → SlC w v l → l.length ≤ 1000 → 0 ≤ d → (∀ n ∈ l, NOk n ∧ n.d ≤ 64) →
    Calls Tryz.prog 26 #[v, .int .i64 d] w fun e w' => TkR d l w e w'
  | 0, _, _, _, _, h, _, _, _, _ => absurd h (Nat.not_lt_zero _)
  | N + 1, l, d, v, w, _, hx, hl, hd, hok => toks_step l d v w (fun l' d' v' w' h' => toks_any N l' d' v' w' (by omega)) hx hl hd hok
end Go.Proofs.YtkaejhdncohgpaaGreatFmt
