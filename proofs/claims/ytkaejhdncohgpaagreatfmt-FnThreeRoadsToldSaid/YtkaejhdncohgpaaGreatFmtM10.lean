/- The laws' nodes as the reference has them; The reference's items of nodes that stand at the top; Walk: spec.Items. -/
import Derived.Test.YtkaejhdncohgpaaGreatFmtM9
import Derived.Maps.OwnOps
import Derived.Deep.CutBlock
/- The laws' nodes as the reference has them. Condition: at most 2^31 nodes. -/
namespace Go.Proofs.YtkaejhdncohgpaaGreatFmt
set_option linter.all false
open Go.RowKit
set_option maxRecDepth 100000
set_option maxHeartbeats 1000000

/-- A node. -/
structure ND where
  k : Int
  un : Int
  d : Int
  tx : List UInt8
  bf : Bool
  af : Bool
def ND.cells (n : ND) : List Value := [.int .i64 n.k, .int .i64 n.un, .int .i64 n.d, .string (bstr n.tx), .bool n.bf, .bool n.af]
theorem info79 : (Tryz.prog.info? 79).map (fun i => (i.zero, i.size, i.bytes)) = some (some (.agg #[.int .i64 0, .int .i64 0, .int .i64 0, .string ⟨#[]⟩, .bool false, .bool false]), 6, 48) := by kernel_rfl
theorem info54 : (Tryz.prog.info? 54).map (fun i => (i.zero, i.size, i.bytes)) = some (some (.agg #[.int .i64 0, .int .i64 0, .string ⟨#[]⟩, .int .i64 0]), 4, 40) := by kernel_rfl
theorem info25 : (Tryz.prog.info? 25).map (fun i => (i.zero, i.size, i.bytes)) = some (some (.agg #[.int .i64 0, .int .i64 0, .int .i64 0, .string ⟨#[]⟩, .bool false, .bool false]), 6, 48) := by kernel_rfl
theorem cells6n {w : World} {B T : Nat} {x0 x1 x2 x3 x4 x5 : Value} (h : w.heap[B]? = some (.cells #[x0, x1, x2, x3, x4, x5] T)) : w.cell? ⟨B, 0, none⟩ = some x0 ∧ w.cell? ⟨B, 1, none⟩ = some x1 ∧ w.cell? ⟨B, 2, none⟩ = some x2 ∧ w.cell? ⟨B, 3, none⟩ = some x3 ∧ w.cell? ⟨B, 4, none⟩ = some x4 ∧ w.cell? ⟨B, 5, none⟩ = some x5 := by
  simp [World.cell?, h]
structure NdI (w0 : World) (l : List ND) (a i : Value) (wr : World) (dn rs : List ND) : Prop where
  eq : dn ++ rs = l
  i : i = .int .i64 dn.length
  kp : Kp (fun _ => False) w0 wr
  own : wr.ownsRow w0.heap.size 79 6 a dn.length (dn.flatMap ND.cells)

theorem nodes_any (l : List ND) (B : Nat) (v : Value) (w : World) (hx : w.ownsRow B 25 6 v l.length (l.flatMap ND.cells)) (hl : l.length ≤ 2147483647) :
    Calls Tryz.prog 29 #[v] w fun e w' => ∃ v', e = .returned v' ∧ w'.ownsRow w.heap.size 79 6 v' l.length (l.flatMap ND.cells) ∧ Kp (fun _ => False) w w' := by
  obtain ⟨Ax, cx, rfl⟩ := own_nil hx rfl
  have HX := Lib.hid hx
  have h0 : NdI w l (.slice none 0 0) (.int .i64 0) w [] l := ⟨rfl, rfl, Kp.refl _ _, World.ownsRow_nil _ _ _ _⟩
  have H0 := Lib.hid h0
  clear h0 hx
  go_enter Tryz.func29, Tryz.ntmps29
  go_wp2
  go_loopw [3, 8] (fun a i wr => ∃ dn rs, NdI w l a i wr dn rs) (fun _ i _ => l.length - (intOf i).toNat)
  case atStart => exact ⟨_, _, H0.out⟩
  case round =>
    obtain ⟨dn, rs, hI⟩ := hrel
    have q2 := hI.i
    subst q2
    match rs, hI with
    | [], hI =>
      obtain rfl : dn = l := by have := hI.eq; simpa using this
      have HI := Lib.hid hI
      clear hI
      go_wp2
      go_ret
      exact ⟨_, rfl, HI.out.own, HI.out.kp⟩
    | t :: r, hI =>
      have hox := own_kp HX.out hI.kp (fun _ _ f => f)
      rw [← hI.eq] at hox
      obtain ⟨g2, cap2, hv2, hB2, hg2, hc⟩ := own_elem hox (fun t => rfl) (by decide)
      have hl2 : dn.length + (r.length + 1) = l.length := by rw [← hI.eq]; simp
      cases hv2
      have hi : dn.length < l.length := by omega
      have c0 := hc 0 _ rfl
      have c1 := hc 1 _ rfl
      have c2 := hc 2 _ rfl
      have c3 := hc 3 _ rfl
      have c4 := hc 4 _ rfl
      have c5 := hc 5 _ rfl
      simp only [Nat.add_zero] at c0
      have HI := Lib.hid hI
      clear hI hc hox hl2
      have hkA : Kp (fun _ => False) wr (wr.alloc (.cells #[.int .i64 t.k, .int .i64 t.un, .int .i64 t.d, .string (bstr t.tx), .bool t.bf, .bool t.af] 25)) := (Kp.refl _ wr).alloc _
      have hbl := heap_alloc_new wr (.cells #[.int .i64 t.k, .int .i64 t.un, .int .i64 t.d, .string (bstr t.tx), .bool t.bf, .bool t.af] 25)
      go_upto_region 5 with fail
      generalize wr.alloc (.cells #[.int .i64 t.k, .int .i64 t.un, .int .i64 t.d, .string (bstr t.tx), .bool t.bf, .bool t.af] 25) = w2 at *
      obtain ⟨d0, d1, d2, d3, d4, d5⟩ := cells6n hbl
      have hbase : w.heap.size ≤ w2.heap.size := Nat.le_trans HI.out.kp.size hkA.size
      have hown := own_kp HI.out.own hkA (fun _ _ f => f)
      have HKA := Lib.hid hkA
      clear hkA hbl c0 c1 c2 c3 c4 c5
      obtain ⟨i0, hi', hz0, hz1, hz2⟩ := info_parts info79
      have HNW := Lib.hid (World.news_of_block (heap_alloc_new w2 (.cells #[.int .i64 t.k, .int .i64 t.un, .int .i64 t.d, .string (bstr t.tx), .bool t.bf, .bool t.af] 79)))
      go_wp2_with (at_builtin; refine wpList_append_own _ rfl (.tmp 12) (.tmp 26) 63 rfl w.heap.size 79 i0 _ 6 48 Tryz.underlying63 hi' hz0 hz1 hz2 rfl (by decide) _ dn.length (dn.flatMap ND.cells) rfl (World.ownsRow.alloc hown _) ⟨w2.heap.size, 0, none⟩ 1 1 t.cells rfl rfl HNW.out ?c1 ?c3 ?c4 ?c5 ?_)
      case c1 => intro x hx; simp [ND.cells] at hx; rcases hx with rfl | rfl | rfl | rfl | rfl | rfl <;> rfl
      case c3 => unfold maxLen; omega
      case c4 => omega
      case c5 => exact Nat.le_trans hbase (by simp)
      intro v' w5 hown' hgrow _
      have hgb : ∀ k, u3.ownBlock = some k → w.heap.size ≤ k := fun k hk => (own_lt hown k hk).1
      have HK5 : Hid (Kp (fun _ => False) w w5) := Lib.hid (((HI.out.kp.trans HKA.out).alloc _).grown hgrow (fun k hk => .inr (hgb k hk)))
      have HO5 := Lib.hid hown'
      clear hown' hgrow hgb d0 d1 d2 d3 d4 d5
      go_wp2
      refine ⟨⟨dn ++ [t], r, by rw [← HI.out.eq]; simp, by simp, HK5.out, ?_⟩, ?_⟩
      · have := HO5.out
        rw [List.flatMap_append, List.length_append]
        simpa using this
      · simp [intOf]; omega
end Go.Proofs.YtkaejhdncohgpaaGreatFmt

/- The reference's items of nodes that stand at the top. Condition: at most 2^31 nodes; a function, if there is one, is the last node. -/
namespace Go.Proofs.YtkaejhdncohgpaaGreatFmt
set_option linter.all false
open Go.RowKit
open Go.Maps (Keyed int_keyed)
set_option maxRecDepth 100000
set_option maxHeartbeats 1000000

/-- A map from an int to a bool. -/
def OM (w : World) (b n : Nat) (D : DataW Unit) : Prop := w.ownsMap Tryz.prog 3 (plainElem Tryz.prog 4) b n D
def D0 (x : Bool) : DataW Unit := .map [(.int .i64 0, .lit (.bool x))]
theorem plainElem_bool_inv {P : Program} {e : TypeId} (he : P.underlying e = some .bool) {v : Value} {z : DataW Unit × List MemPlace} (h : plainElem P e v = some z) : ∃ x, v = .bool x ∧ z = (.lit (.bool x), []) := by
  unfold plainElem at h
  rw [he] at h
  cases v <;> simp at h
  exact ⟨_, rfl, h.symm⟩
theorem OM.look {w : World} {b n : Nat} {D : DataW Unit} (h : OM w b n D) (x : Bool) (hx : D.atKey (.int .i64 0) (.lit (.bool false)) = .lit (.bool x)) : (Instr.lookup 139 (.map (some b)) (.int .i64 0) false).run Tryz.prog w = .ok (.bool x) w := by
  obtain ⟨v, ps, hr, hv⟩ := World.ownsMap.lookup (t := 139) (e := 4) (z := .bool false) h (int_keyed Tryz.underlying3) Tryz.underlying139 (by kernel_rfl) (plainElem_bool Tryz.underlying4 false) (key := .int .i64 0) (kl := .int .i64 0) (by kernel_rfl)
  obtain ⟨y, rfl, hy⟩ := plainElem_bool_inv Tryz.underlying4 hv
  rw [hx] at hy
  cases hy
  exact hr
theorem OM.upd {w : World} {b n : Nat} {D : DataW Unit} (h : OM w b n D) (hn : n < 1000000000000) (k : Int) (hk : keyOf Tryz.prog 3 (.int .i64 k) = some (.int .i64 k)) (y : Bool) : ∃ w', (Instr.mapUpdate 139 (.map (some b)) (.int .i64 k) (.bool y)).run Tryz.prog w = .ok () w' ∧ OM w' b (n + 1) (D.put (.int .i64 k) (.lit (.bool y))) ∧ w.grownBy w' (some b) :=
  World.ownsMap.update (t := 139) (e := 4) h (int_keyed Tryz.underlying3) Tryz.underlying139 (by unfold maxLen; omega) hk (plainElem_bool Tryz.underlying4 y)
theorem OM.kp {w w' : World} {b n : Nat} {D : DataW Unit} (h : OM w b n D) {S : Nat → Prop} (hk : Kp S w w') (hS : ¬ S b) : OM w' b n D := by
  have hlt := World.ownsMap.lt h
  obtain ⟨es, clock, hb, F, hs, hD⟩ := h
  exact ⟨es, clock, (hk.block b hlt hS).trans hb, F, hs, hD⟩
theorem put0 (x y : Bool) : (D0 x).put (.int .i64 0) (.lit (.bool y)) = D0 y := by cases x <;> cases y <;> rfl
theorem putE (y : Bool) : (DataW.map (H := Unit) []).put (.int .i64 0) (.lit (.bool y)) = D0 y := by rfl
theorem at0 (x : Bool) : (D0 x).atKey (.int .i64 0) (.lit (.bool false)) = .lit (.bool x) := by cases x <;> rfl
theorem atE : (DataW.map (H := Unit) []).atKey (.int .i64 0) (.lit (.bool false)) = .lit (.bool false) := by rfl

/-- spec.Opens. -/
theorem Opens_func (w : World) : Calls Tryz.prog 42 #[.int .i64 27] w fun e w' => e = .returned (.tuple #[.int .i64 8, .bool true]) ∧ w' = w := by
  go_enter Tryz.func42, Tryz.ntmps42
  go_wp2
  go_ret2
  exact ⟨rfl, rfl⟩
theorem Opens_no (k : Int) (w : World) (h1 : k ≠ 27) (h2 : k ≠ 33) (h3 : k ≠ 32) (h4 : k ≠ 31) : Calls Tryz.prog 42 #[.int .i64 k] w fun e w' => e = .returned (.tuple #[.int .i64 0, .bool false]) ∧ w' = w := by
  have b1 : (k == 27) = false := by simpa using h1
  have b2 : (k == 33) = false := by simpa using h2
  have b3 : (k == 32) = false := by simpa using h3
  have b4 : (k == 31) = false := by simpa using h4
  clear h1 h2 h3 h4
  go_enter Tryz.func42, Tryz.ntmps42
  go_wp2
  go_ret2
  exact ⟨rfl, rfl⟩

/-- Nodes at the top; a function is the last one. -/
inductive Flt : List ND → Prop
  | nil : Flt []
  | plain (n : ND) (r : List ND) (hd : n.d = 0) (h1 : n.k ≠ 27) (h2 : n.k ≠ 33) (h3 : n.k ≠ 32) (h4 : n.k ≠ 31) (hr : Flt r) : Flt (n :: r)
  | func (n : ND) (hd : n.d = 0) (h1 : n.k = 27) : Flt [n]
/-- Their items; f: none is ahead; la: the one ahead wants whitespace behind it. -/
def itsOf : Bool → Bool → List ND → List It
  | _, _, [] => []
  | f, la, n :: r => ⟨n.k, n.un, n.tx, if f then -1 else if n.bf || la then 1 else 0⟩ :: ((if n.k = 27 then [⟨8, 0, [], -1⟩] else []) ++ itsOf false n.af r)
end Go.Proofs.YtkaejhdncohgpaaGreatFmt

/- Walk: spec.Items. Condition: at most 2^31 nodes at the top; a function, if there is one, is the last node. -/
namespace Go.Proofs.YtkaejhdncohgpaaGreatFmt
set_option linter.all false
open Go.RowKit
set_option maxRecDepth 100000
set_option maxHeartbeats 8000000

theorem info3 : (Tryz.prog.info? 3).map (fun i => (i.zero, i.size, i.bytes)) = some (some (.int .i64 0), 1, 8) := by kernel_rfl
theorem ne_s {a b : Nat} (h : a ≠ b) : ¬ (fun k => k = b) a := h
theorem kpSet (w : World) (b o : Nat) (u : Value) : Kp (fun k => k = b) w (w.setCell ⟨b, o, none⟩ u) := (Kp.refl (fun k => k = b) w).setCell (p := ⟨b, o, none⟩) (.inl rfl) u
theorem blk4 {w : World} {b T : Nat} {x0 x1 x2 x3 : Value} (h : w.heap[b]? = some (.cells #[x0, x1, x2, x3] T)) (u : Value) : (w.setCell ⟨b, 3, none⟩ u).heap[b]? = some (.cells #[x0, x1, x2, u] T) := by
  simp [World.setCell, Array.getElem?_modify, h]
theorem out_sp (n : ND) (f la : Bool) : (if f then (-1 : Int) else if n.bf || la then 1 else 0) = if f = true then -1 else if (n.bf || la) = true then 1 else 0 := rfl
/-- The loop of Items. -/
structure ItS (w0 w1 : World) (b5 b6 : Nat) (l : List ND) (a op i : Value) (wr : World) (dn rs : List ND) (f la fn : Bool) (out : List It) (n : Nat) : Prop where
  eq : dn ++ rs = l
  i : i = .int .i64 dn.length
  kp : Kp (fun k => k = b5 ∨ k = b6) w1 wr
  own : wr.ownsRow w1.heap.size 54 4 a out.length (out.flatMap icell)
  oc : out ++ itsOf f la rs = itsOf true false l ∨ fn = true
  fc : fn = false ∧ op = .slice none 0 0 ∧ Flt rs ∨ fn = true ∧ rs = [] ∧ out ++ [⟨8, 0, [], -1⟩] = itsOf true false l ∧ ∃ bo c, op = .slice (some ⟨bo, 0, none⟩) 1 c ∧ wr.cell? ⟨bo, 0, none⟩ = some (.int .i64 8)
  m5 : fn = true ∨ ∃ D, OM wr b5 n D ∧ D.atKey (.int .i64 0) (.lit (.bool false)) = .lit (.bool la) ∧ ∀ y, D.put (.int .i64 0) (.lit (.bool y)) = D0 y
  m6 : fn = true ∨ OM wr b6 n (D0 f)
  nn : n ≤ 3 * dn.length + 2
  ln : out.length ≤ dn.length

theorem Items_any (l : List ND) (B : Nat) (v : Value) (w : World) (hx : w.ownsRow B 79 6 v l.length (l.flatMap ND.cells)) (hl : l.length ≤ 2147483647) (hf : Flt l) :
    Calls Tryz.prog 28 #[v] w fun e w' => ∃ v', e = .returned v' ∧ w'.ownsRow w.heap.size 54 4 v' (itsOf true false l).length ((itsOf true false l).flatMap icell) ∧ Kp (fun _ => False) w w' := by
  obtain ⟨Ax, cx, rfl⟩ := own_nil hx rfl
  have HX := Lib.hid hx
  have HF := Lib.hid hf
  clear hx hf
  have h5 : OM (w.alloc (.map #[] 0)) w.heap.size 0 (.map []) := World.ownsMap_made w _ _ _
  have h6 : OM ((w.alloc (.map #[] 0)).alloc (.map #[] 0)) (w.heap.size + 1) 0 (.map []) := by
    have := World.ownsMap_made (H := Unit) (w.alloc (.map #[] 0)) Tryz.prog 3 (plainElem Tryz.prog 4)
    rw [show (w.alloc (.map #[] 0)).heap.size = w.heap.size + 1 by simp] at this
    exact this
  obtain ⟨w1, hins, ho6, hg6⟩ := h6.upd (by omega) 0 (by kernel_rfl) true
  rw [putE] at ho6
  have hk0 : Kp (fun _ => False) w ((w.alloc (.map #[] 0)).alloc (.map #[] 0)) := ((Kp.refl _ w).alloc _).alloc _
  have hk1 : Kp (fun _ => False) w w1 := hk0.grown hg6 (fun k hk => by cases hk; right; omega)
  have ho5 : OM w1 w.heap.size 0 (.map []) := (h5.kp ((Kp.refl (fun _ => False) _).alloc _) (fun f => f)).kp (grown_kp hg6) (by intro e; have := Option.some.inj e; omega)
  have hs1 : w.heap.size + 1 < w1.heap.size := by have := hg6.size; simp at this; omega
  have HK1 := Lib.hid hk1
  have h0 : ItS w w1 w.heap.size (w.heap.size + 1) l (.slice none 0 0) (.slice none 0 0) (.int .i64 0) w1 [] l true false false [] 1 :=
    ⟨rfl, rfl, Kp.refl _ _, World.ownsRow_nil _ _ _ _, .inl rfl, .inl ⟨rfl, rfl, HF.out⟩, .inr ⟨_, World.ownsMap.mono ho5 (by omega), atE, putE⟩, .inr ho6, by simp, by simp⟩
  have H0 := Lib.hid h0
  clear h0 h5 h6 ho5 ho6 hg6 hk0 hk1
  have hmm := @run_makeMap Tryz.prog
  go_enter Tryz.func28, Tryz.ntmps28
  go_wp2
  clear hmm hins
  go_loopw [3, 4, 17] (fun a op i wr => ∃ dn rs f la fn out n, ItS w w1 w.heap.size (w.heap.size + 1) l a op i wr dn rs f la fn out n) (fun _ _ i _ => l.length - (intOf i).toNat)
  case atStart => exact ⟨_, _, _, _, _, _, _, H0.out⟩
  case round =>
    obtain ⟨dn, rs, f, la, fn, out, n, hI⟩ := hrel
    have q2 := hI.i
    subst q2
    match rs, hI with
    | [], hI =>
      have hdl : dn = l := by have := hI.eq; simpa using this
      have HKW : Hid (Kp (fun _ => False) w wr) := Lib.hid (HK1.out.trans' hI.kp (fun k hk e => by omega))
      have HOW : Hid (wr.ownsRow w.heap.size 54 4 u3 out.length (out.flatMap icell)) := Lib.hid (own_mono hI.own HK1.out.size)
      have hln := hI.ln
      rcases hI.fc with ⟨hfn, rfl, -⟩ | ⟨hfn, -, hout, bo, co, rfl, hco⟩
      · have hoc := hI.oc.resolve_right (by simp [hfn])
        rw [itsOf, List.append_nil] at hoc
        have HOC := Lib.hid hoc
        subst hdl
        clear hI hoc hfn
        go_wp2
        refine wp_loop_rounds 1 ?_
        rw [rounds_succ]
        go_wp2
        go_ret
        refine ⟨_, rfl, ?_, HKW.out⟩
        rw [← HOC.out]
        exact HOW.out
      · have HOUT := Lib.hid hout
        subst hdl
        have hol : out.length + 1 ≤ 2147483649 := by omega
        have hbo : bo < wr.heap.size := World.block_lt_of_cell? wr _ hco
        have hww := HKW.out.size
        obtain ⟨i0, hi', hz0, hz1, hz2⟩ := info_parts info54
        have HNW := Lib.hid (World.news_of_block (heap_alloc_new wr (.cells #[.int .i64 8, .int .i64 0, .string ⟨#[]⟩, .int .i64 (-1)] 54)))
        clear hI hout hfn
        go_wp2
        refine wp_loop_rounds 2 ?_
        rw [rounds_succ]
        go_wp2_with (at_builtin; refine wpList_append_own _ rfl (.tmp 95) (.tmp 103) 30 rfl w.heap.size 54 i0 _ 4 40 Tryz.underlying30 hi' hz0 hz1 hz2 rfl (by decide) u3 out.length (out.flatMap icell) rfl (World.ownsRow.alloc HOW.out _) ⟨wr.heap.size, 0, none⟩ 1 1 (icell ⟨8, 0, [], -1⟩) rfl rfl HNW.out ?c1 ?c3 ?c4 ?c5 ?_)
        case c1 => intro x hx; simp [icell] at hx; rcases hx with rfl | rfl | rfl | rfl <;> rfl
        case c3 => unfold maxLen; omega
        case c4 => omega
        case c5 => exact Nat.le_trans hww (by simp)
        intro v' w5 hown' hgrow _
        have hk5 : Kp (fun _ => False) w w5 := (HKW.out.alloc _).grown hgrow (fun k hk => .inr (own_lt HOW.out k hk).1)
        have hown2 : w5.ownsRow w.heap.size 54 4 v' (out ++ [(⟨8, 0, [], -1⟩ : It)]).length ((out ++ [(⟨8, 0, [], -1⟩ : It)]).flatMap icell) := by
          rw [List.flatMap_append, List.length_append]; simpa using hown'
        have HK5 := Lib.hid hk5
        have HO5 := Lib.hid hown2
        clear hown' hgrow hk5 hown2
        go_wp2
        rw [rounds_succ]
        go_wp2
        go_ret
        refine ⟨_, rfl, ?_, HK5.out⟩
        rw [← HOUT.out]
        exact HO5.out
    | t :: r, hI =>
      obtain ⟨rfl, rfl, hflt⟩ := hI.fc.resolve_right (by simp)
      have hox := own_kp HX.out HK1.out (fun _ _ f => f)
      have hox2 := own_kp hox hI.kp (fun k hk e => by have := own_lt HX.out k hk; omega)
      rw [← hI.eq] at hox2
      obtain ⟨g2, cap2, hv2, hB2, hg2, hc⟩ := own_elem hox2 (fun t => rfl) (by decide)
      have hl2 : dn.length + (r.length + 1) = l.length := by rw [← hI.eq]; simp
      cases hv2
      have hi : dn.length < l.length := by omega
      have hd0 : t.d = 0 := by cases hflt <;> assumption
      have c0 := hc 0 _ rfl
      have c1 := hc 1 _ rfl
      have c2 := hc 2 _ rfl
      have c3 := hc 3 _ rfl
      have c4 := hc 4 _ rfl
      have c5 := hc 5 _ rfl
      simp only [Nat.add_zero] at c0
      rw [hd0] at c2
      obtain ⟨D, h5, h5a, h5p⟩ := hI.m5.resolve_left (by simp)
      have h6 := hI.m6.resolve_left (by simp)
      have hoc := hI.oc.resolve_right (by simp)
      have HI := Lib.hid hI
      have HFL := Lib.hid hflt
      clear hI hc hox hox2 hl2 hflt
      have hkA : Kp (fun _ => False) wr (wr.alloc (.cells #[.int .i64 t.k, .int .i64 t.un, .int .i64 0, .string (bstr t.tx), .bool t.bf, .bool t.af] 79)) := (Kp.refl _ wr).alloc _
      have hbl := heap_alloc_new wr (.cells #[.int .i64 t.k, .int .i64 t.un, .int .i64 0, .string (bstr t.tx), .bool t.bf, .bool t.af] 79)
      have HD5 := Lib.hid h5a
      have HP5 := Lib.hid h5p
      have HO5 := Lib.hid h5
      have HO6 := Lib.hid h6
      have HOC := Lib.hid hoc
      clear h5 h6 h5a h5p hoc
      go_wp2
      refine wp_loop_rounds 1 ?_
      rw [rounds_succ]
      go_upto_block 4 with fail
      have hkB : Kp (fun _ => False) wr ((wr.alloc (.cells #[.int .i64 t.k, .int .i64 t.un, .int .i64 0, .string (bstr t.tx), .bool t.bf, .bool t.af] 79)).alloc (.cells #[.int .i64 t.k, .int .i64 t.un, .string (bstr t.tx), .int .i64 0] 54)) := hkA.alloc _
      have hb8 : ((wr.alloc (.cells #[.int .i64 t.k, .int .i64 t.un, .int .i64 0, .string (bstr t.tx), .bool t.bf, .bool t.af] 79)).alloc (.cells #[.int .i64 t.k, .int .i64 t.un, .string (bstr t.tx), .int .i64 0] 54)).heap[wr.heap.size]? = some (.cells #[.int .i64 t.k, .int .i64 t.un, .int .i64 0, .string (bstr t.tx), .bool t.bf, .bool t.af] 79) := by
        rw [Below.heap_alloc _ _ _ (by simp)]; exact hbl
      have hb9 : ((wr.alloc (.cells #[.int .i64 t.k, .int .i64 t.un, .int .i64 0, .string (bstr t.tx), .bool t.bf, .bool t.af] 79)).alloc (.cells #[.int .i64 t.k, .int .i64 t.un, .string (bstr t.tx), .int .i64 0] 54)).heap[wr.heap.size + 1]? = some (.cells #[.int .i64 t.k, .int .i64 t.un, .string (bstr t.tx), .int .i64 0] 54) := by
        have := heap_alloc_new (wr.alloc (.cells #[.int .i64 t.k, .int .i64 t.un, .int .i64 0, .string (bstr t.tx), .bool t.bf, .bool t.af] 79)) (.cells #[.int .i64 t.k, .int .i64 t.un, .string (bstr t.tx), .int .i64 0] 54)
        rwa [show (wr.alloc (.cells #[.int .i64 t.k, .int .i64 t.un, .int .i64 0, .string (bstr t.tx), .bool t.bf, .bool t.af] 79)).heap.size = wr.heap.size + 1 by simp] at this
      generalize (wr.alloc (.cells #[.int .i64 t.k, .int .i64 t.un, .int .i64 0, .string (bstr t.tx), .bool t.bf, .bool t.af] 79)).alloc (.cells #[.int .i64 t.k, .int .i64 t.un, .string (bstr t.tx), .int .i64 0] 54) = w2 at *
      have hwr : w.heap.size + 1 < wr.heap.size := Nat.lt_of_lt_of_le hs1 HI.out.kp.size
      have HKB := Lib.hid hkB
      have HB8 := Lib.hid hb8
      have HB9 := Lib.hid hb9
      have hlt9 : wr.heap.size + 1 < w2.heap.size := (Array.getElem?_eq_some_iff.1 hb9).1
      have h5 := HO5.out.kp hkB (fun f => f)
      have h6 := HO6.out.kp hkB (fun f => f)
      have l5 := h5.look la HD5.out
      have l6 := h6.look f (at0 f)
      have H5 := Lib.hid h5
      have H6 := Lib.hid h6
      clear hkA hbl hkB hb8 hb9 h5 h6 c0 c1 c2 c3 c4 c5
      obtain ⟨e0, e1, e2, e3, e4, e5⟩ := cells6n HB8.out
      obtain ⟨f0, f1, f2, f3⟩ := cells4 HB9.out
      have ff : w2.frozen? ⟨wr.heap.size + 1, 3, none⟩ = false := by unfold World.frozen?; rw [HB9.out]; simp
      go_cut [] (fun wx => Kp (fun k => k = wr.heap.size + 1) w2 wx ∧ wx.heap[wr.heap.size + 1]? = some (.cells #[.int .i64 t.k, .int .i64 t.un, .string (bstr t.tx), .int .i64 (if f then -1 else if t.bf || la then 1 else 0)] 54))
      case first =>
        cases f
        · cases hbf : t.bf
          · cases la
            · go_wp2
              go_meet
              exact ⟨Kp.refl _ _, by simpa [hbf] using HB9.out⟩
            · go_wp2
              go_meet
              exact ⟨kpSet _ _ _ _, by simpa [hbf] using blk4 HB9.out _⟩
          · go_wp2
            go_meet
            exact ⟨kpSet _ _ _ _, by simpa [hbf] using blk4 HB9.out _⟩
        · go_wp2
          go_meet
          exact ⟨kpSet _ _ _ _, by simpa using blk4 HB9.out _⟩
      case rest =>
      obtain ⟨hkC, hb9'⟩ := hcut
      generalize hsp : (if f then (-1 : Int) else if t.bf || la then 1 else 0) = sp at *
      have HSP := Lib.hid hsp
      have hn6 : w.heap.size + 1 ≠ wr.heap.size + 1 := by omega
      have hn5 : w.heap.size ≠ wr.heap.size + 1 := by omega
      have hn56 : w.heap.size + 1 ≠ w.heap.size := by omega
      have hn8 : wr.heap.size ≠ wr.heap.size + 1 := by omega
      have hn86 : wr.heap.size ≠ w.heap.size + 1 := by omega
      have hn85 : wr.heap.size ≠ w.heap.size := by omega
      have hn96 : wr.heap.size + 1 ≠ w.heap.size + 1 := by omega
      have hn95 : wr.heap.size + 1 ≠ w.heap.size := by omega
      have HKC := Lib.hid hkC
      have HB9c := Lib.hid hb9'
      have HB8c : Hid (wc.heap[wr.heap.size]? = some (.cells #[.int .i64 t.k, .int .i64 t.un, .int .i64 0, .string (bstr t.tx), .bool t.bf, .bool t.af] 79)) := Lib.hid (by rw [hkC.block wr.heap.size (by omega) hn8]; exact HB8.out)
      obtain ⟨w3, u6r, o6, g6⟩ := (show OM wc.drew (w.heap.size + 1) n (D0 f) from OM.kp (S := fun k => k = wr.heap.size + 1) H6.out hkC.drew hn6).upd (by have := HI.out.nn; omega) 0 (by kernel_rfl) false
      rw [put0] at o6
      obtain ⟨w4, u5r, o5, g5⟩ := ((show OM wc.drew w.heap.size n D from OM.kp (S := fun k => k = wr.heap.size + 1) H5.out hkC.drew hn5).kp (grown_kp g6) (by intro e; have := Option.some.inj e; omega)).upd (by have := HI.out.nn; omega) 0 (by kernel_rfl) t.af
      rw [HP5.out] at o5
      have hk6 : Kp (fun k => k = w.heap.size + 1) wc.drew w3 := (grown_kp g6).mono (fun k _ e => (Option.some.inj e).symm)
      have hk5 : Kp (fun k => k = w.heap.size) w3 w4 := (grown_kp g5).mono (fun k _ e => (Option.some.inj e).symm)
      have hz3 : wc.heap.size ≤ w3.heap.size := hk6.size
      have hzc : w2.heap.size ≤ wc.heap.size := hkC.size
      have HB83 : Hid (w3.heap[wr.heap.size]? = some (.cells #[.int .i64 t.k, .int .i64 t.un, .int .i64 0, .string (bstr t.tx), .bool t.bf, .bool t.af] 79)) := Lib.hid (by rw [hk6.block wr.heap.size (show wr.heap.size < wc.heap.size by omega) hn86]; exact HB8c.out)
      have HB84 : Hid (w4.heap[wr.heap.size]? = some (.cells #[.int .i64 t.k, .int .i64 t.un, .int .i64 0, .string (bstr t.tx), .bool t.bf, .bool t.af] 79)) := Lib.hid (by rw [hk5.block wr.heap.size (by omega) hn85]; exact HB83.out)
      have HB94 : Hid (w4.heap[wr.heap.size + 1]? = some (.cells #[.int .i64 t.k, .int .i64 t.un, .string (bstr t.tx), .int .i64 sp] 54)) := Lib.hid (by
        rw [hk5.block (wr.heap.size + 1) (by omega) hn95, hk6.block (wr.heap.size + 1) (show wr.heap.size + 1 < wc.heap.size by omega) hn96]; exact HB9c.out)
      have HO64 : Hid (OM w4 (w.heap.size + 1) (n + 1) (D0 false)) := Lib.hid (OM.kp (S := fun k => k = w.heap.size) o6 hk5 hn56)
      have HO54 := Lib.hid o5
      have HK4 : Hid (Kp (fun k => k = w.heap.size ∨ k = w.heap.size + 1) w1 w4) := Lib.hid (by
        have h1 : Kp (fun k => k = w.heap.size ∨ k = w.heap.size + 1) w1 w2 := HI.out.kp.trans' HKB.out (fun _ _ f => f.elim)
        have h2 : Kp (fun k => k = w.heap.size ∨ k = w.heap.size + 1) w1 wc := h1.trans' HKC.out (fun k hk e => by have := HI.out.kp.size; omega)
        exact (h2.drew.trans' hk6 (fun k hk e => .inr e)).trans' hk5 (fun k hk e => .inl e))
      have HOW4 : Hid (w4.ownsRow w1.heap.size 54 4 u3 out.length (out.flatMap icell)) := Lib.hid (by
        have a1 := own_kp HI.out.own HKB.out (fun _ _ f => f)
        have a2 := own_kp a1 HKC.out (fun k hk e => by have := (own_lt HI.out.own k hk).2.1; omega)
        have a3 : wc.drew.ownsRow w1.heap.size 54 4 u3 out.length (out.flatMap icell) := a2
        have a4 := own_kp a3 hk6 (fun k hk e => by have := (own_lt HI.out.own k hk).1; omega)
        exact own_kp a4 hk5 (fun k hk e => by have := (own_lt HI.out.own k hk).1; omega))
      obtain ⟨-, -, x2, -, -, x5⟩ := cells6n HB8c.out
      replace x2 : wc.drew.cell? ⟨wr.heap.size, 2, none⟩ = some (.int .i64 0) := x2
      replace x5 : wc.drew.cell? ⟨wr.heap.size, 5, none⟩ = some (.bool t.af) := x5
      obtain ⟨-, -, z2, -, -, z5⟩ := cells6n HB83.out
      obtain ⟨-, -, q2, -, -, q5⟩ := cells6n HB84.out
      clear hn6 hn5 hn56 hn8 hn86 hn85 hn96 hn95 hkC hb9' hsp o6 o5 g6 g5 hk6 hk5 l5 l6 e0 e1 e2 e3 e4 e5 f0 f1 f2 f3 ff
      go_upto_region 16 with fail
      refine wp_region_held_drew (S := fun w' => w'.cell? ⟨wr.heap.size, 2, none⟩ = some (.int .i64 0) ∧ w'.cell? ⟨wr.heap.size, 5, none⟩ = some (.bool t.af)) (by kernel_rfl) ⟨x2, x5⟩ (fun hHeld => ?_)
      refine wpAnyH_take (i := 0) (oi := ⟨some 64, _, _, _, _, _⟩) (v := .map (some (w.heap.size + 1))) rfl (by kernel_rfl) (by kernel_rfl) (by kernel_rfl) (fun _ _ _ h => h) (Or.inl ⟨by kernel_rfl, ?_⟩) (by assumption) ?_
      · (intro w' hS; obtain ⟨s0, s1⟩ := hS; go_simp)
      simp only [Act.put, List.setIfInBounds_toArray, List.set_cons_zero, List.set_cons_succ]
      refine wpAnyH_take (i := 1) (oi := ⟨some 65, _, _, _, _, _⟩) (v := .pointer (some ⟨wr.heap.size, 2, none⟩)) rfl (by kernel_rfl) (by kernel_rfl) (by kernel_rfl) (fun _ _ _ h => h) (Or.inl ⟨by kernel_rfl, ?_⟩) (by assumption) ?_
      · (intro w' hS; obtain ⟨s0, s1⟩ := hS; go_simp)
      simp only [Act.put, List.setIfInBounds_toArray, List.set_cons_zero, List.set_cons_succ]
      refine wpAnyH_take (i := 2) (oi := ⟨some 66, _, _, _, _, _⟩) (v := .int .i64 0) rfl (by kernel_rfl) (by kernel_rfl) (by kernel_rfl) (fun _ _ _ h => h) (Or.inl ⟨by kernel_rfl, ?_⟩) (by assumption) ?_
      · (intro w' hS; obtain ⟨s0, s1⟩ := hS; go_simp)
      simp only [Act.put, List.setIfInBounds_toArray, List.set_cons_zero, List.set_cons_succ]
      refine wpAnyH_take (i := 3) (oi := ⟨some 67, _, _, _, _, _⟩) (v := .map (some w.heap.size)) rfl (by kernel_rfl) (by kernel_rfl) (by kernel_rfl) (fun _ _ _ h => h) (Or.inl ⟨by kernel_rfl, ?_⟩) (by assumption) ?_
      · (intro w' hS; obtain ⟨s0, s1⟩ := hS; go_simp)
      simp only [Act.put, List.setIfInBounds_toArray, List.set_cons_zero, List.set_cons_succ]
      refine wpAnyH_take (i := 4) (oi := ⟨some 68, _, _, _, _, _⟩) (v := .pointer (some ⟨wr.heap.size, 2, none⟩)) rfl (by kernel_rfl) (by kernel_rfl) (by kernel_rfl) (fun _ _ _ h => h) (Or.inl ⟨by kernel_rfl, ?_⟩) (by assumption) ?_
      · (intro w' hS; obtain ⟨s0, s1⟩ := hS; go_simp)
      simp only [Act.put, List.setIfInBounds_toArray, List.set_cons_zero, List.set_cons_succ]
      refine wpAnyH_take (i := 5) (oi := ⟨some 69, _, _, _, _, _⟩) (v := .int .i64 0) rfl (by kernel_rfl) (by kernel_rfl) (by kernel_rfl) (fun _ _ _ h => h) (Or.inl ⟨by kernel_rfl, ?_⟩) (by assumption) ?_
      · (intro w' hS; obtain ⟨s0, s1⟩ := hS; go_simp)
      simp only [Act.put, List.setIfInBounds_toArray, List.set_cons_zero, List.set_cons_succ]
      refine wpAnyH_take (i := 6) (oi := ⟨some 70, _, _, _, _, _⟩) (v := .pointer (some ⟨wr.heap.size, 5, none⟩)) rfl (by kernel_rfl) (by kernel_rfl) (by kernel_rfl) (fun _ _ _ h => h) (Or.inl ⟨by kernel_rfl, ?_⟩) (by assumption) ?_
      · (intro w' hS; obtain ⟨s0, s1⟩ := hS; go_simp)
      simp only [Act.put, List.setIfInBounds_toArray, List.set_cons_zero, List.set_cons_succ]
      refine wpAnyH_take (i := 7) (oi := ⟨some 71, _, _, _, _, _⟩) (v := .bool t.af) rfl (by kernel_rfl) (by kernel_rfl) (by kernel_rfl) (fun _ _ _ h => h) (Or.inl ⟨by kernel_rfl, ?_⟩) (by assumption) ?_
      · (intro w' hS; obtain ⟨s0, s1⟩ := hS; go_simp)
      simp only [Act.put, List.setIfInBounds_toArray, List.set_cons_zero, List.set_cons_succ]
      refine wpAnyH_ready (rs := [8]) (by kernel_rfl) (by simp) ?_
      refine AllReadyH.cons (o := ⟨none, _, _, _, _, _⟩) rfl (fun K hK => ?_) AllReadyH.nil
      go_simp
      refine hK.out _ _ ⟨z2, z5⟩ (fun hHeld2 => ?_)
      clear hHeld
      try simp only [Act.put, List.setIfInBounds_toArray, List.set_cons_zero, List.set_cons_succ]
      refine wpAnyH_ready (rs := [9]) (by kernel_rfl) (by simp) ?_
      refine AllReadyH.cons (o := ⟨none, _, _, _, _, _⟩) rfl (fun K hK => ?_) AllReadyH.nil
      go_simp
      refine hK.out _ _ ⟨q2, q5⟩ (fun hHeld2 => ?_)
      try simp only [Act.put, List.setIfInBounds_toArray, List.set_cons_zero, List.set_cons_succ]
      refine wpAnyH_done (by kernel_rfl) ?_ _
      clear hHeld2 x2 x5 z2 z5 q2 q5 u6r u5r
      obtain ⟨f0, f1, f2, f3⟩ := cells4 HB94.out
      obtain ⟨i0, hi', hz0, hz1, hz2⟩ := info_parts info54
      have HNW := Lib.hid (World.news_of_block (heap_alloc_new w4 (.cells #[.int .i64 t.k, .int .i64 t.un, .string (bstr t.tx), .int .i64 sp] 54)))
      have hw14 : w1.heap.size ≤ w4.heap.size := HK4.out.size
      have hol : out.length + 1 ≤ 2147483649 := by have := HI.out.ln; omega
      go_wp2_with (at_builtin; refine wpList_append_own _ rfl (.tmp 72) (.tmp 74) 30 rfl w1.heap.size 54 i0 _ 4 40 Tryz.underlying30 hi' hz0 hz1 hz2 rfl (by decide) u3 out.length (out.flatMap icell) rfl (World.ownsRow.alloc HOW4.out _) ⟨w4.heap.size, 0, none⟩ 1 1 (icell ⟨t.k, t.un, t.tx, sp⟩) rfl rfl HNW.out ?c1 ?c3 ?c4 ?c5 ?_)
      case c1 => intro x hx; simp [icell] at hx; rcases hx with rfl | rfl | rfl | rfl <;> rfl
      case c3 => unfold maxLen; omega
      case c4 => omega
      case c5 => exact Nat.le_trans hw14 (by simp)
      intro v' w5 hown' hgrow _
      have hgb : ∀ k, u3.ownBlock = some k → w1.heap.size ≤ k ∧ k < wr.heap.size := fun k hk => ⟨(own_lt HI.out.own k hk).1, (own_lt HI.out.own k hk).2.1⟩
      have HK45 : Hid (Kp (fun k => u3.ownBlock = some k) w4 w5) := Lib.hid (Kp.trans ((Kp.refl _ w4).alloc _) (grown_kp hgrow))
      have HB85 : Hid (w5.heap[wr.heap.size]? = some (.cells #[.int .i64 t.k, .int .i64 t.un, .int .i64 0, .string (bstr t.tx), .bool t.bf, .bool t.af] 79)) := Lib.hid (by
        rw [HK45.out.block wr.heap.size (Array.getElem?_eq_some_iff.1 HB84.out).1 (fun e => by have := (hgb _ e).2; omega)]; exact HB84.out)
      have HO65 : Hid (OM w5 (w.heap.size + 1) (n + 1) (D0 false)) := Lib.hid (HO64.out.kp HK45.out (fun e => by have := (hgb _ e).1; omega))
      have HO55 : Hid (OM w5 w.heap.size (n + 1) (D0 t.af)) := Lib.hid (HO54.out.kp HK45.out (fun e => by have := (hgb _ e).1; omega))
      have HK5 : Hid (Kp (fun k => k = w.heap.size ∨ k = w.heap.size + 1) w1 w5) := Lib.hid (HK4.out.trans' HK45.out (fun k hk e => by have := (hgb _ e).1; omega))
      have hown2 : w5.ownsRow w1.heap.size 54 4 v' (out ++ [(⟨t.k, t.un, t.tx, sp⟩ : It)]).length ((out ++ [(⟨t.k, t.un, t.tx, sp⟩ : It)]).flatMap icell) := by
        rw [List.flatMap_append, List.length_append]; simpa using hown'
      have HO5w := Lib.hid hown2
      obtain ⟨d0, -, d2, -, -, -⟩ := cells6n HB85.out
      clear hown' hgrow hgb hown2 f0 f1 f2 f3
      have HFL2 := HFL.out
      cases hcase : decide (t.k = 27)
      · have hne : t.k ≠ 27 := by simpa using hcase
        have hfr : Flt r ∧ t.k ≠ 33 ∧ t.k ≠ 32 ∧ t.k ≠ 31 := by
          cases HFL2 with
          | plain _ _ _ h1 h2 h3 h4 hr => exact ⟨hr, h2, h3, h4⟩
          | func _ _ h1 => exact absurd h1 hne
        have HOP := Lib.hid (Opens_no t.k w5 hne hfr.2.1 hfr.2.2.1 hfr.2.2.2)
        have HFR := Lib.hid hfr.1
        have HNE := Lib.hid hne
        clear HFL2 hcase hne hfr
        go_wp2_with (go_at_call 42; refine HOP.out.mono ?_; rintro e w9 ⟨rfl, rfl⟩)
        refine ⟨⟨dn ++ [t], r, false, t.af, false, out ++ [⟨t.k, t.un, t.tx, sp⟩], n + 1, by rw [← HI.out.eq]; simp, by simp, HK5.out, HO5w.out, .inl ?_, .inl ⟨rfl, rfl, HFR.out⟩, .inr ⟨_, HO55.out, at0 _, put0 _⟩, .inr HO65.out, ?_, ?_⟩, ?_⟩
        · rw [← HOC.out, itsOf, if_neg HNE.out, List.nil_append, HSP.out]; simp
        · have := HI.out.nn; simp; omega
        · have := HI.out.ln; simp; omega
        · simp [intOf]; omega
      · have hk27 : t.k = 27 := by simpa using hcase
        have hfr : r = [] := by
          cases HFL2 with
          | plain _ _ _ h1 h2 h3 h4 hr => exact absurd hk27 h1
          | func _ _ h1 => rfl
        subst hfr
        rw [hk27] at d0
        have HK27 := Lib.hid hk27
        clear HFL2 hcase hk27
        have HOP := Lib.hid (Opens_func w5)
        obtain ⟨j0, hj, hj0, hj1, hj2⟩ := info_parts info3
        have HNX := Lib.hid (World.news_of_block (heap_alloc_new w5 (.cells #[.int .i64 8] 3)))
        go_wp2_with fail
        refine HOP.out.mono ?_
        rintro e w9 ⟨rfl, rfl⟩
        go_upto_region 20 with fail
        go_wp2_with (at_builtin; (refine wpList_append_own _ rfl (.tmp 83) (.tmp 85) 138 rfl w9.heap.size 3 j0 _ 1 8 Tryz.underlying138 hj hj0 hj1 hj2 rfl (by decide) (.slice none 0 0) 0 [] rfl (World.ownsRow_nil _ _ _ _) ⟨w9.heap.size, 0, none⟩ 1 1 [.int .i64 8] rfl rfl HNX.out ?c1 ?c3 ?c4 ?c5 ?_))
        case c1 => intro x hx; simp at hx; subst hx; rfl
        case c3 => unfold maxLen; omega
        case c4 => omega
        case c5 => simp
        intro vo w6 hoo hgo _
        obtain ⟨bo, co, hvo⟩ : ∃ bo c, vo = .slice (some ⟨bo, 0, none⟩) 1 c := by
          rcases hoo.2 with ⟨-, h2⟩ | ⟨g, cap, cur, h1, _⟩
          · simp at h2
          · exact ⟨g, cap, h1⟩
        have hco : w6.cell? ⟨bo, 0, none⟩ = some (.int .i64 8) := by
          subst hvo
          have := hoo.cells (g := bo) rfl 0 (.int .i64 8) rfl
          simpa [Addr.add] using this
        have hbo : w9.heap.size ≤ bo := by subst hvo; exact (own_lt hoo bo rfl).1
        have hk56 : Kp (fun _ => False) w9 w6 := ((Kp.refl _ w9).alloc _).grown hgo (fun k hk => by cases hk)
        obtain ⟨w7, u7r, o7, g7⟩ := (HO65.out.kp hk56 (fun f => f)).upd (by have := HI.out.nn; omega) 1 (by kernel_rfl) true
        have hk67 : Kp (fun k => k = w.heap.size + 1) w6 w7 := (grown_kp g7).mono (fun k _ e => (Option.some.inj e).symm)
        have HK7 : Hid (Kp (fun k => k = w.heap.size ∨ k = w.heap.size + 1) w1 w7) := Lib.hid ((HK5.out.trans' hk56 (fun _ _ f => f.elim)).trans' hk67 (fun k hk e => .inr e))
        have hw15 : w1.heap.size ≤ w9.heap.size := HK5.out.size
        have HCO : Hid (w7.cell? ⟨bo, 0, none⟩ = some (.int .i64 8)) := Lib.hid (by
          rw [World.cell?_of_block (w := w6) (hk67.block bo (World.block_lt_of_cell? w6 _ hco) (ne_s (by omega)))]; exact hco)
        have HO7w : Hid (w7.ownsRow w1.heap.size 54 4 v' (out ++ [(⟨t.k, t.un, t.tx, sp⟩ : It)]).length ((out ++ [(⟨t.k, t.un, t.tx, sp⟩ : It)]).flatMap icell)) := Lib.hid (by
          have a1 := own_kp HO5w.out hk56 (fun _ _ f => f)
          exact own_kp a1 hk67 (fun k hk e => by have := (own_lt HO5w.out k hk).1; omega))
        have d2' : w6.cell? ⟨wr.heap.size, 2, none⟩ = some (.int .i64 0) := by
          rw [World.cell?_of_block (w := w9) (hk56.block wr.heap.size (World.block_lt_of_cell? w9 _ d2) (fun f => f))]; exact d2
        rw [hvo]
        clear hoo hgo hco hk56 o7 g7 hk67 d0 d2
        go_wp2
        refine ⟨⟨dn ++ [t], [], false, t.af, true, out ++ [⟨t.k, t.un, t.tx, sp⟩], n + 1, by rw [← HI.out.eq]; simp, by simp, HK7.out, HO7w.out, .inr rfl, .inr ⟨rfl, rfl, ?_, bo, co, rfl, HCO.out⟩, .inl rfl, .inl rfl, ?_, ?_⟩, ?_⟩
        · rw [← HOC.out, itsOf, if_pos HK27.out, HSP.out, itsOf]; simp
        · have := HI.out.nn; simp; omega
        · have := HI.out.ln; simp; omega
        · simp [intOf]; omega
end Go.Proofs.YtkaejhdncohgpaaGreatFmt
