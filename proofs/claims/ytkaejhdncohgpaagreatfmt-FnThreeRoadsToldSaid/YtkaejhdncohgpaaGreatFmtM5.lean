/- Walk: printWithEscape, a code point as it is, or behind a backslash; Walk: printWithEscape, a code point behind a backslash (made by gen/c6.py); Walk: WouldStartIdentifierWithoutEscapes; What an identifier is printed as; the walk's small laws. -/
import Derived.Test.YtkaejhdncohgpaaGreatFmtM2
import Derived.Test.YtkaejhdncohgpaaGreatFmtShelf
import Derived.Test.YtkaejhdncohgpaaGreatFmtC4
import Derived.Deep.RegionLaw
import Derived.Lib.OthersKept
import Derived.ScopeJumps
import Derived.WalkMore
/- Walk: printWithEscape, a code point as it is, or behind a backslash. -/
namespace Go.Proofs.YtkaejhdncohgpaaGreatFmt
set_option linter.all false
open Go.RowKit Go.Lib
set_option maxRecDepth 100000
set_option maxHeartbeats 1000000

theorem step_app_bys {w : World} {ops : Array Oper} {o : Oper} {a : Act} {K : Act → World → Prop} {Q : Exit → Act → World → Prop} {E : Prop} (sl x : Operand)
    (ho : o.op = .call { callee := .builtin .append, args := #[sl, x], argTypes := #[34, 34] }) (hgd : o.guard = none)
    (G : Nat) (v : Value) (css : List UInt8) (hs : a.eval sl = v) (hown : w.ownsRow G 5 1 v css.length (bys css)) (ad : Addr) (m c : Nat) (bs : List UInt8) (hx : a.eval x = .slice (some ad) m c) (hl : bs.length = m)
    (hnews : ∀ j u, (bys bs)[j]? = some u → w.cell? (ad.add j) = some u) (hb : css.length + m ≤ 140737488355328) (hG : G ≤ w.heap.size)
    (h : ∀ v' w1, App G w v css bs v' w1 → K (a.put o.dst v') w1) : if Region.wanted o (yielded ops a.tmps) = true then Oper.wp Tryz.prog o a w K Q else E := by
  have hw : Region.wanted o (yielded ops a.tmps) = true := by simp [Region.wanted, hgd]
  rw [if_pos hw]
  obtain ⟨i0, hi, hz0, hz1, hz2⟩ := info_parts info5
  have h63 : css.length + m ≤ maxLen := by unfold maxLen; omega
  have hone : ∀ u ∈ bys bs, u.oneCell' = true := by intro u hu; simp only [bys, List.mem_map] at hu; obtain ⟨b, _, rfl⟩ := hu; rfl
  have hll : (bys bs).length = m * 1 := by rw [bys_length]; omega
  obtain ⟨v', w', hr, h1, h2, h3⟩ := run_append_own (P := Tryz.prog) w G 34 o.type 5 i0 (.int .u8 0) 1 1 Tryz.underlying34 hi hz0 hz1 hz2 rfl (by decide) v css.length (bys css) hown ad m c (bys bs) hll hnews hone h63 (by omega) hG
  have h4 := place_slice (P := Tryz.prog) w G 34 o.type 5 i0 (.int .u8 0) 1 1 Tryz.underlying34 hi hz0 hz1 hz2 rfl (by decide) v css.length (bys css) hown ad m c (bys bs) hll hnews hone h63 (by omega) hr h3
  have hA : App G w v css bs v' w' := ⟨by rw [bys_append, List.length_append, hl]; exact h1, h2, h4, own_slice h1⟩
  unfold Oper.wp
  simp [execOp, ho, resolve, invoke, builtin, hs, hx, hr, Result.andThen]
  exact h v' w' hA

theorem setCells_cell (w : World) (b : Nat) (l : List Value) (o : Nat) (hb : ∀ j, j < l.length → (w.cell? ⟨b, o + j, none⟩).isSome = true) (j : Nat) (u : Value) (h : l[j]? = some u) : (w.setCells b o l).cell? ⟨b, o + j, none⟩ = some u := by
  obtain ⟨hj, rfl⟩ := List.getElem?_eq_some_iff.1 h
  exact World.cell?_setCells_in b l o w hb j hj
theorem setCells_kp {a : World} (b : Nat) (hb : a.heap.size ≤ b) : ∀ (l : List Value) (o : Nat) (w : World), Kp (fun _ => False) a w → Kp (fun _ => False) a (w.setCells b o l)
  | [], _, _, h => h
  | v :: l, o, w, h => setCells_kp b hb l (o + 1) _ (h.setCell (p := ⟨b, o, none⟩) (.inr hb) v)
theorem add_at (b j : Nat) : (⟨b, 0, none⟩ : Addr).add j = ⟨b, j, none⟩ := by cases j <;> simp [Addr.add]

theorem tmp_cell (w : World) : ∀ j, j < 4 → (w.alloc (.cells #[.int .u8 0, .int .u8 0, .int .u8 0, .int .u8 0] 340)).cell? ⟨w.heap.size, j, none⟩ = some (.int .u8 0) := by
  intro j hj4
  have : (w.alloc (.cells #[.int .u8 0, .int .u8 0, .int .u8 0, .int .u8 0] 340)).heap[w.heap.size]? = _ := heap_alloc_new w _
  simp only [World.cell?, this]
  match j, hj4 with
  | 0, _ => rfl
  | 1, _ => rfl
  | 2, _ => rfl
  | 3, _ => rfl
theorem tmp_froz (w : World) : ∀ j, (w.alloc (.cells #[.int .u8 0, .int .u8 0, .int .u8 0, .int .u8 0] 340)).frozen? ⟨w.heap.size, j, none⟩ = false := by
  intro j
  have : (w.alloc (.cells #[.int .u8 0, .int .u8 0, .int .u8 0, .int .u8 0] 340)).heap[w.heap.size]? = _ := heap_alloc_new w _
  unfold World.frozen?
  rw [this]
  simp

theorem esc_none (F : Go.Stop.Interp) (G g : Nat) (m a : Bool) (v : Value) (css : List UInt8) (c : Int) (s : ByteArray) (last : Bool) (w : World) (h : Pn F G w g m a v css) (hc : Scal c) (hb : css.length + 100 ≤ 140737488355328) :
    Calls Tryz.prog 101 #[.pointer (some ⟨g, 0, none⟩), .int .i32 c, .int .u8 0, .string s, .bool last] w fun e w' => e = .returned (.tuple #[]) ∧ Wr F G g m a v w (css ++ encd c) w' := by
  obtain ⟨y3, y5, y6, y7, y9, y15, yf⟩ := h.pr.f
  have hlt := h.pr.lt
  have hne : g ≠ w.heap.size := by omega
  obtain ⟨A, n, cp, rfl⟩ := own_slice h.pr.own
  have hL := encd_len c
  have hs1 : Kp (fun _ => False) w ((w.alloc (.cells #[.int .u8 0, .int .u8 0, .int .u8 0, .int .u8 0] 340)).setCells w.heap.size 0 (bys (encd c))) := setCells_kp _ (Nat.le_refl _) _ _ _ ((Kp.refl _ w).alloc _)
  have hcc := tmp_cell w
  have hff := tmp_froz w
  have hnw := fun j u (hj : (bys (encd c))[j]? = some u) => setCells_cell (w.alloc (.cells #[.int .u8 0, .int .u8 0, .int .u8 0, .int .u8 0] 340)) w.heap.size (bys (encd c)) 0 (by
    intro j hj
    rw [Nat.zero_add, hcc j (by rw [bys_length] at hj; omega)]; rfl) j u hj
  have hp1 := h.pr.below hs1
  have HC := Lib.hid hc
  have HCC := Lib.hid hcc
  have HFF := Lib.hid hff
  have HNW := Lib.hid hnw
  clear hc hcc hff hnw
  go_enter Tryz.func101, Tryz.ntmps101
  go_upto_region 6 with (go_at_call 131; refine (EncodeRune_any w.heap.size c HC.out _ _ _ _ _ (HCC.out 0 (by decide)) (HCC.out 1 (by decide)) (HCC.out 2 (by decide)) (HCC.out 3 (by decide)) (HFF.out 0) (HFF.out 1) (HFF.out 2) (HFF.out 3)).mono ?_; rintro e w' ⟨rfl, rfl⟩)
  generalize ((w.alloc (.cells #[.int .u8 0, .int .u8 0, .int .u8 0, .int .u8 0] 340)).setCells w.heap.size 0 (bys (encd c))) = W1 at *
  obtain ⟨z3, z5, z6, z7, z9, z15, zf⟩ := hp1.f
  have hp1d := hp1.below ((Kp.refl _ W1).drew)
  have HP := Lib.hid hp1d
  clear hp1d
  have HS1 := Lib.hid hs1.drew
  clear hs1
  clear hp1 y3 y5 y6 y7 y9 y15 yf z3 z5 z6 z7 z9
  generalize hLL : (encd c).length = L at *
  have HLL := Lib.hid hLL
  clear hLL
  have hi0 : (0 : Int) ≤ (L : Int) := by omega
  have hi4 : (L : Int) ≤ 4 := by omega
  obtain ⟨z15d, zfd⟩ : (W1.drew).cell? ⟨g, 15, none⟩ = some (.slice A n cp) ∧ (W1.drew).frozen? ⟨g, 15, none⟩ = false := ⟨z15, zf⟩
  go_region_law ((refine step_app_bys (.tmp 51) (.tmp 53) (by rfl) (by rfl) G _ css (by rfl) HP.out.own ⟨w.heap.size, 0, none⟩ L 4 (encd c) (by rfl) HLL.out (fun j u hu => by rw [add_at]; have := HNW.out j u hu; rw [Nat.zero_add] at this; exact this) (by omega) HP.out.ge ?_; intro v' w1 hA; obtain ⟨A', n', cp', rfl⟩ := hA.form; obtain ⟨c15, d15⟩ := HP.out.at1 hA))
  have hw := Wr.of h (HP.out.app hA).1 ((HP.out.app hA).2.pre HS1.out)
  have HW := Lib.hid hw
  clear hw hA h
  go_wp2
  go_end0
  exact ⟨rfl, HW.out⟩


end Go.Proofs.YtkaejhdncohgpaaGreatFmt

/- Walk: printWithEscape, a code point behind a backslash (made by gen/c6.py). -/
namespace Go.Proofs.YtkaejhdncohgpaaGreatFmt
set_option linter.all false
open Go.RowKit Go.Lib
set_option maxRecDepth 100000
set_option maxHeartbeats 1000000

theorem kk_lit92 {w : World} (j : Nat) (u : Value) (x : UInt8) (h : (bys [x])[j]? = some u) : (w.alloc (.cells #[.int .u8 x.toNat] 5)).cell? ((⟨w.heap.size, 0, none⟩ : Addr).add j) = some u := kk_lit j u x h

theorem setCells_kq {a : World} (b : Nat) : ∀ (l : List Value) (o : Nat) (w : World), Kp (fun k => k = b) a w → Kp (fun k => k = b) a (w.setCells b o l)
  | [], _, _, h => h
  | v :: l, o, w, h => setCells_kq b l (o + 1) _ (h.setCell (p := ⟨b, o, none⟩) (.inl rfl) v)

theorem esc_ba (F : Go.Stop.Interp) (G g : Nat) (m a : Bool) (v : Value) (css : List UInt8) (c : Int) (s : ByteArray) (last : Bool) (w : World) (h : Pn F G w g m a v css) (hc : Scal c) (hx : c < 48) (hb : css.length + 100 ≤ 140737488355328) :
    Calls Tryz.prog 101 #[.pointer (some ⟨g, 0, none⟩), .int .i32 c, .int .u8 1, .string s, .bool last] w fun e w' => e = .returned (.tuple #[]) ∧ Wr F G g m a v w (css ++ 92 :: encd c) w' := by
  obtain ⟨y3, y5, y6, y7, y9, y15, yf⟩ := h.pr.f
  have hlt := h.pr.lt
  have hne : g ≠ w.heap.size := by omega
  obtain ⟨A, n, cp, rfl⟩ := own_slice h.pr.own
  have hL := encd_len c
  skip
  have hs1 : Kp (fun _ => False) w ((w.alloc (.cells #[.int .u8 0, .int .u8 0, .int .u8 0, .int .u8 0] 340)).alloc (.cells #[.int .u8 92] 5)) := ((Kp.refl _ w).alloc _).alloc _
  have hp1 := h.pr.below hs1
  have hown := hp1.own
  have hge := hp1.ge
  have hbt : css.length + 1 ≤ 140737488355328 := by omega
  have hb1 : ((w.alloc (.cells #[.int .u8 0, .int .u8 0, .int .u8 0, .int .u8 0] 340)).alloc (.cells #[.int .u8 92] 5)).heap[w.heap.size]? = some (.cells #[.int .u8 0, .int .u8 0, .int .u8 0, .int .u8 0] 340) := by
    rw [Below.heap_alloc _ _ _ (by simp)]; exact heap_alloc_new w _
  have hvo : ∀ k, Value.ownBlock (.slice A n cp) = some k → k < w.heap.size := fun k hk => (own_lt h.pr.own k hk).2.1
  have hz1 : w.heap.size < ((w.alloc (.cells #[.int .u8 0, .int .u8 0, .int .u8 0, .int .u8 0] 340)).alloc (.cells #[.int .u8 92] 5)).heap.size := by simp; omega
  have HC := Lib.hid hc
  have HB1 := Lib.hid hb1
  have HVO := Lib.hid hvo
  have HZ1 := Lib.hid hz1
  clear hc hb1 hvo hz1
  go_enter Tryz.func101, Tryz.ntmps101
  go_wp2_with (at_builtin; refine app_bys (.tmp 63) (.tmp 64) rfl rfl G _ css rfl hown ⟨w.heap.size + 1, 0, none⟩ 1 1 [92] (by simp [Act.eval]) rfl (fun j u hu => by simpa using kk_lit (w := w.alloc (.cells #[.int .u8 0, .int .u8 0, .int .u8 0, .int .u8 0] 340)) j u 92 hu) hbt hge ?_)
  intro v1 w1 hA
  obtain ⟨A1, n1, cp1, rfl⟩ := hA.form
  generalize ((w.alloc (.cells #[.int .u8 0, .int .u8 0, .int .u8 0, .int .u8 0] 340)).alloc (.cells #[.int .u8 92] 5)) = W1 at *
  obtain ⟨c15, d15⟩ := hp1.at1 hA
  obtain ⟨P2, S2⟩ := hp1.app hA
  have S2' := S2.pre hs1
  have hb2 : (w1.setCell ⟨g, 15, none⟩ (.slice A1 n1 cp1)).heap[w.heap.size]? = some (.cells #[.int .u8 0, .int .u8 0, .int .u8 0, .int .u8 0] 340) := by
    rw [S2.kp.block _ HZ1.out (by rintro (e | e); exact hne e.symm; have := HVO.out _ e; omega)]; exact HB1.out
  have hcc : ∀ j, j < 4 → (w1.setCell ⟨g, 15, none⟩ (.slice A1 n1 cp1)).cell? ⟨w.heap.size, j, none⟩ = some (.int .u8 0) := by
    intro j hj4
    simp only [World.cell?, hb2]
    match j, hj4 with
    | 0, _ => rfl
    | 1, _ => rfl
    | 2, _ => rfl
    | 3, _ => rfl
  have hff : ∀ j, (w1.setCell ⟨g, 15, none⟩ (.slice A1 n1 cp1)).frozen? ⟨w.heap.size, j, none⟩ = false := by
    intro j
    unfold World.frozen?
    rw [hb2]
    simp
  have hnw := fun j u (hj : (bys (encd c))[j]? = some u) => setCells_cell (w1.setCell ⟨g, 15, none⟩ (.slice A1 n1 cp1)) w.heap.size (bys (encd c)) 0 (by
    intro j hj
    rw [Nat.zero_add, hcc j (by rw [bys_length] at hj; omega)]; rfl) j u hj
  have hk3 : Kp (fun k => k = w.heap.size) (w1.setCell ⟨g, 15, none⟩ (.slice A1 n1 cp1)) ((w1.setCell ⟨g, 15, none⟩ (.slice A1 n1 cp1)).setCells w.heap.size 0 (bys (encd c))) := setCells_kq _ _ _ _ (Kp.refl _ _)
  have hvo1 : ∀ k, Value.ownBlock (.slice A1 n1 cp1) = some k → k ≠ w.heap.size := by
    intro k hk e
    rcases S2.own k hk with q | q
    · have := HVO.out k q; omega
    · have := HZ1.out; omega
  have hp3 := P2.kp hk3 hne hvo1
  have HCC := Lib.hid hcc
  have HFF := Lib.hid hff
  have HNW := Lib.hid hnw
  have HS2 := Lib.hid S2'
  have HP2 := Lib.hid P2
  have HK3 := Lib.hid hk3
  have HP3 := Lib.hid hp3
  have HV1 := Lib.hid hvo1
  clear hcc hff hnw S2 S2' hs1 hp1 P2 hown hge hb2 hA hk3 hp3 hvo1
  go_upto_region 10 with (go_at_call 131; refine (EncodeRune_any w.heap.size c HC.out _ _ _ _ _ (HCC.out 0 (by decide)) (HCC.out 1 (by decide)) (HCC.out 2 (by decide)) (HCC.out 3 (by decide)) (HFF.out 0) (HFF.out 1) (HFF.out 2) (HFF.out 3)).mono ?_; rintro e w' ⟨rfl, rfl⟩)
  have hp3 := HP3.out
  have hnw := HNW.out
  have hst : Stp g (.slice A n cp) (.slice A1 n1 cp1) w (((w1.setCell ⟨g, 15, none⟩ (.slice A1 n1 cp1)).setCells w.heap.size 0 (bys (encd c)))) :=
    ⟨HS2.out.kp.trans' HK3.out (fun i hi e => by omega), HS2.out.own⟩
  clear HK3 HP3 HNW HCC HFF
  generalize ((w1.setCell ⟨g, 15, none⟩ (.slice A1 n1 cp1)).setCells w.heap.size 0 (bys (encd c))) = W3 at *
  obtain ⟨z3, z5, z6, z7, z9, z15, zf⟩ := hp3.f
  have hp3d := hp3.below ((Kp.refl _ W3).drew)
  have HP := Lib.hid hp3d
  have HNW := Lib.hid hnw
  have HST := Lib.hid hst
  clear hp3d hp3 hnw hst y3 y5 y6 y7 y9 y15 yf z3 z5 z6 z7 z9 c15 d15
  generalize hLL : (encd c).length = L at *
  have HLL := Lib.hid hLL
  clear hLL
  have hi0 : (0 : Int) ≤ (L : Int) := by omega
  have hi4 : (L : Int) ≤ 4 := by omega
  have hbt3 : (css ++ [92]).length + L ≤ 140737488355328 := by rw [List.length_append]; simp; omega
  obtain ⟨z15d, zfd⟩ : (W3.drew).cell? ⟨g, 15, none⟩ = some (.slice A1 n1 cp1) ∧ (W3.drew).frozen? ⟨g, 15, none⟩ = false := ⟨z15, zf⟩
  go_region_law ((refine step_app_bys (.tmp 75) (.tmp 77) (by rfl) (by rfl) G _ (css ++ [92]) (by rfl) HP.out.own ⟨w.heap.size, 0, none⟩ L 4 (encd c) (by rfl) HLL.out (fun j u hu => by rw [add_at]; have := HNW.out j u hu; rw [Nat.zero_add] at this; exact this) hbt3 HP.out.ge ?_; intro v' w4 hA; obtain ⟨A', n', cp', rfl⟩ := hA.form; obtain ⟨c15, d15⟩ := HP.out.at1 hA))
  have hw := Wr.of h (HP.out.app hA).1 (HST.out.trans ((HP.out.app hA).2.pre ((Kp.refl _ W3).drew)))
  rw [List.append_assoc] at hw
  have HW := Lib.hid hw
  clear hw hA h
  go_wp2
  go_end0
  exact ⟨rfl, HW.out⟩

theorem esc_bb (F : Go.Stop.Interp) (G g : Nat) (m a : Bool) (v : Value) (css : List UInt8) (c : Int) (s : ByteArray) (last : Bool) (w : World) (h : Pn F G w g m a v css) (hc : Scal c) (hx : 57 < c ∧ c < 65) (hb : css.length + 100 ≤ 140737488355328) :
    Calls Tryz.prog 101 #[.pointer (some ⟨g, 0, none⟩), .int .i32 c, .int .u8 1, .string s, .bool last] w fun e w' => e = .returned (.tuple #[]) ∧ Wr F G g m a v w (css ++ 92 :: encd c) w' := by
  obtain ⟨y3, y5, y6, y7, y9, y15, yf⟩ := h.pr.f
  have hlt := h.pr.lt
  have hne : g ≠ w.heap.size := by omega
  obtain ⟨A, n, cp, rfl⟩ := own_slice h.pr.own
  have hL := encd_len c
  obtain ⟨hx1, hx2⟩ := hx
  have hs1 : Kp (fun _ => False) w ((w.alloc (.cells #[.int .u8 0, .int .u8 0, .int .u8 0, .int .u8 0] 340)).alloc (.cells #[.int .u8 92] 5)) := ((Kp.refl _ w).alloc _).alloc _
  have hp1 := h.pr.below hs1
  have hown := hp1.own
  have hge := hp1.ge
  have hbt : css.length + 1 ≤ 140737488355328 := by omega
  have hb1 : ((w.alloc (.cells #[.int .u8 0, .int .u8 0, .int .u8 0, .int .u8 0] 340)).alloc (.cells #[.int .u8 92] 5)).heap[w.heap.size]? = some (.cells #[.int .u8 0, .int .u8 0, .int .u8 0, .int .u8 0] 340) := by
    rw [Below.heap_alloc _ _ _ (by simp)]; exact heap_alloc_new w _
  have hvo : ∀ k, Value.ownBlock (.slice A n cp) = some k → k < w.heap.size := fun k hk => (own_lt h.pr.own k hk).2.1
  have hz1 : w.heap.size < ((w.alloc (.cells #[.int .u8 0, .int .u8 0, .int .u8 0, .int .u8 0] 340)).alloc (.cells #[.int .u8 92] 5)).heap.size := by simp; omega
  have HC := Lib.hid hc
  have HB1 := Lib.hid hb1
  have HVO := Lib.hid hvo
  have HZ1 := Lib.hid hz1
  clear hc hb1 hvo hz1
  go_enter Tryz.func101, Tryz.ntmps101
  go_wp2_with (at_builtin; refine app_bys (.tmp 63) (.tmp 64) rfl rfl G _ css rfl hown ⟨w.heap.size + 1, 0, none⟩ 1 1 [92] (by simp [Act.eval]) rfl (fun j u hu => by simpa using kk_lit (w := w.alloc (.cells #[.int .u8 0, .int .u8 0, .int .u8 0, .int .u8 0] 340)) j u 92 hu) hbt hge ?_)
  intro v1 w1 hA
  obtain ⟨A1, n1, cp1, rfl⟩ := hA.form
  generalize ((w.alloc (.cells #[.int .u8 0, .int .u8 0, .int .u8 0, .int .u8 0] 340)).alloc (.cells #[.int .u8 92] 5)) = W1 at *
  obtain ⟨c15, d15⟩ := hp1.at1 hA
  obtain ⟨P2, S2⟩ := hp1.app hA
  have S2' := S2.pre hs1
  have hb2 : (w1.setCell ⟨g, 15, none⟩ (.slice A1 n1 cp1)).heap[w.heap.size]? = some (.cells #[.int .u8 0, .int .u8 0, .int .u8 0, .int .u8 0] 340) := by
    rw [S2.kp.block _ HZ1.out (by rintro (e | e); exact hne e.symm; have := HVO.out _ e; omega)]; exact HB1.out
  have hcc : ∀ j, j < 4 → (w1.setCell ⟨g, 15, none⟩ (.slice A1 n1 cp1)).cell? ⟨w.heap.size, j, none⟩ = some (.int .u8 0) := by
    intro j hj4
    simp only [World.cell?, hb2]
    match j, hj4 with
    | 0, _ => rfl
    | 1, _ => rfl
    | 2, _ => rfl
    | 3, _ => rfl
  have hff : ∀ j, (w1.setCell ⟨g, 15, none⟩ (.slice A1 n1 cp1)).frozen? ⟨w.heap.size, j, none⟩ = false := by
    intro j
    unfold World.frozen?
    rw [hb2]
    simp
  have hnw := fun j u (hj : (bys (encd c))[j]? = some u) => setCells_cell (w1.setCell ⟨g, 15, none⟩ (.slice A1 n1 cp1)) w.heap.size (bys (encd c)) 0 (by
    intro j hj
    rw [Nat.zero_add, hcc j (by rw [bys_length] at hj; omega)]; rfl) j u hj
  have hk3 : Kp (fun k => k = w.heap.size) (w1.setCell ⟨g, 15, none⟩ (.slice A1 n1 cp1)) ((w1.setCell ⟨g, 15, none⟩ (.slice A1 n1 cp1)).setCells w.heap.size 0 (bys (encd c))) := setCells_kq _ _ _ _ (Kp.refl _ _)
  have hvo1 : ∀ k, Value.ownBlock (.slice A1 n1 cp1) = some k → k ≠ w.heap.size := by
    intro k hk e
    rcases S2.own k hk with q | q
    · have := HVO.out k q; omega
    · have := HZ1.out; omega
  have hp3 := P2.kp hk3 hne hvo1
  have HCC := Lib.hid hcc
  have HFF := Lib.hid hff
  have HNW := Lib.hid hnw
  have HS2 := Lib.hid S2'
  have HP2 := Lib.hid P2
  have HK3 := Lib.hid hk3
  have HP3 := Lib.hid hp3
  have HV1 := Lib.hid hvo1
  clear hcc hff hnw S2 S2' hs1 hp1 P2 hown hge hb2 hA hk3 hp3 hvo1
  go_upto_region 10 with (go_at_call 131; refine (EncodeRune_any w.heap.size c HC.out _ _ _ _ _ (HCC.out 0 (by decide)) (HCC.out 1 (by decide)) (HCC.out 2 (by decide)) (HCC.out 3 (by decide)) (HFF.out 0) (HFF.out 1) (HFF.out 2) (HFF.out 3)).mono ?_; rintro e w' ⟨rfl, rfl⟩)
  have hp3 := HP3.out
  have hnw := HNW.out
  have hst : Stp g (.slice A n cp) (.slice A1 n1 cp1) w (((w1.setCell ⟨g, 15, none⟩ (.slice A1 n1 cp1)).setCells w.heap.size 0 (bys (encd c)))) :=
    ⟨HS2.out.kp.trans' HK3.out (fun i hi e => by omega), HS2.out.own⟩
  clear HK3 HP3 HNW HCC HFF
  generalize ((w1.setCell ⟨g, 15, none⟩ (.slice A1 n1 cp1)).setCells w.heap.size 0 (bys (encd c))) = W3 at *
  obtain ⟨z3, z5, z6, z7, z9, z15, zf⟩ := hp3.f
  have hp3d := hp3.below ((Kp.refl _ W3).drew)
  have HP := Lib.hid hp3d
  have HNW := Lib.hid hnw
  have HST := Lib.hid hst
  clear hp3d hp3 hnw hst y3 y5 y6 y7 y9 y15 yf z3 z5 z6 z7 z9 c15 d15
  generalize hLL : (encd c).length = L at *
  have HLL := Lib.hid hLL
  clear hLL
  have hi0 : (0 : Int) ≤ (L : Int) := by omega
  have hi4 : (L : Int) ≤ 4 := by omega
  have hbt3 : (css ++ [92]).length + L ≤ 140737488355328 := by rw [List.length_append]; simp; omega
  obtain ⟨z15d, zfd⟩ : (W3.drew).cell? ⟨g, 15, none⟩ = some (.slice A1 n1 cp1) ∧ (W3.drew).frozen? ⟨g, 15, none⟩ = false := ⟨z15, zf⟩
  go_region_law ((refine step_app_bys (.tmp 75) (.tmp 77) (by rfl) (by rfl) G _ (css ++ [92]) (by rfl) HP.out.own ⟨w.heap.size, 0, none⟩ L 4 (encd c) (by rfl) HLL.out (fun j u hu => by rw [add_at]; have := HNW.out j u hu; rw [Nat.zero_add] at this; exact this) hbt3 HP.out.ge ?_; intro v' w4 hA; obtain ⟨A', n', cp', rfl⟩ := hA.form; obtain ⟨c15, d15⟩ := HP.out.at1 hA))
  have hw := Wr.of h (HP.out.app hA).1 (HST.out.trans ((HP.out.app hA).2.pre ((Kp.refl _ W3).drew)))
  rw [List.append_assoc] at hw
  have HW := Lib.hid hw
  clear hw hA h
  go_wp2
  go_end0
  exact ⟨rfl, HW.out⟩

theorem esc_bc (F : Go.Stop.Interp) (G g : Nat) (m a : Bool) (v : Value) (css : List UInt8) (c : Int) (s : ByteArray) (last : Bool) (w : World) (h : Pn F G w g m a v css) (hc : Scal c) (hx : 70 < c ∧ c < 97) (hb : css.length + 100 ≤ 140737488355328) :
    Calls Tryz.prog 101 #[.pointer (some ⟨g, 0, none⟩), .int .i32 c, .int .u8 1, .string s, .bool last] w fun e w' => e = .returned (.tuple #[]) ∧ Wr F G g m a v w (css ++ 92 :: encd c) w' := by
  obtain ⟨y3, y5, y6, y7, y9, y15, yf⟩ := h.pr.f
  have hlt := h.pr.lt
  have hne : g ≠ w.heap.size := by omega
  obtain ⟨A, n, cp, rfl⟩ := own_slice h.pr.own
  have hL := encd_len c
  obtain ⟨hx1, hx2⟩ := hx
  have hs1 : Kp (fun _ => False) w ((w.alloc (.cells #[.int .u8 0, .int .u8 0, .int .u8 0, .int .u8 0] 340)).alloc (.cells #[.int .u8 92] 5)) := ((Kp.refl _ w).alloc _).alloc _
  have hp1 := h.pr.below hs1
  have hown := hp1.own
  have hge := hp1.ge
  have hbt : css.length + 1 ≤ 140737488355328 := by omega
  have hb1 : ((w.alloc (.cells #[.int .u8 0, .int .u8 0, .int .u8 0, .int .u8 0] 340)).alloc (.cells #[.int .u8 92] 5)).heap[w.heap.size]? = some (.cells #[.int .u8 0, .int .u8 0, .int .u8 0, .int .u8 0] 340) := by
    rw [Below.heap_alloc _ _ _ (by simp)]; exact heap_alloc_new w _
  have hvo : ∀ k, Value.ownBlock (.slice A n cp) = some k → k < w.heap.size := fun k hk => (own_lt h.pr.own k hk).2.1
  have hz1 : w.heap.size < ((w.alloc (.cells #[.int .u8 0, .int .u8 0, .int .u8 0, .int .u8 0] 340)).alloc (.cells #[.int .u8 92] 5)).heap.size := by simp; omega
  have HC := Lib.hid hc
  have HB1 := Lib.hid hb1
  have HVO := Lib.hid hvo
  have HZ1 := Lib.hid hz1
  clear hc hb1 hvo hz1
  go_enter Tryz.func101, Tryz.ntmps101
  go_wp2_with (at_builtin; refine app_bys (.tmp 63) (.tmp 64) rfl rfl G _ css rfl hown ⟨w.heap.size + 1, 0, none⟩ 1 1 [92] (by simp [Act.eval]) rfl (fun j u hu => by simpa using kk_lit (w := w.alloc (.cells #[.int .u8 0, .int .u8 0, .int .u8 0, .int .u8 0] 340)) j u 92 hu) hbt hge ?_)
  intro v1 w1 hA
  obtain ⟨A1, n1, cp1, rfl⟩ := hA.form
  generalize ((w.alloc (.cells #[.int .u8 0, .int .u8 0, .int .u8 0, .int .u8 0] 340)).alloc (.cells #[.int .u8 92] 5)) = W1 at *
  obtain ⟨c15, d15⟩ := hp1.at1 hA
  obtain ⟨P2, S2⟩ := hp1.app hA
  have S2' := S2.pre hs1
  have hb2 : (w1.setCell ⟨g, 15, none⟩ (.slice A1 n1 cp1)).heap[w.heap.size]? = some (.cells #[.int .u8 0, .int .u8 0, .int .u8 0, .int .u8 0] 340) := by
    rw [S2.kp.block _ HZ1.out (by rintro (e | e); exact hne e.symm; have := HVO.out _ e; omega)]; exact HB1.out
  have hcc : ∀ j, j < 4 → (w1.setCell ⟨g, 15, none⟩ (.slice A1 n1 cp1)).cell? ⟨w.heap.size, j, none⟩ = some (.int .u8 0) := by
    intro j hj4
    simp only [World.cell?, hb2]
    match j, hj4 with
    | 0, _ => rfl
    | 1, _ => rfl
    | 2, _ => rfl
    | 3, _ => rfl
  have hff : ∀ j, (w1.setCell ⟨g, 15, none⟩ (.slice A1 n1 cp1)).frozen? ⟨w.heap.size, j, none⟩ = false := by
    intro j
    unfold World.frozen?
    rw [hb2]
    simp
  have hnw := fun j u (hj : (bys (encd c))[j]? = some u) => setCells_cell (w1.setCell ⟨g, 15, none⟩ (.slice A1 n1 cp1)) w.heap.size (bys (encd c)) 0 (by
    intro j hj
    rw [Nat.zero_add, hcc j (by rw [bys_length] at hj; omega)]; rfl) j u hj
  have hk3 : Kp (fun k => k = w.heap.size) (w1.setCell ⟨g, 15, none⟩ (.slice A1 n1 cp1)) ((w1.setCell ⟨g, 15, none⟩ (.slice A1 n1 cp1)).setCells w.heap.size 0 (bys (encd c))) := setCells_kq _ _ _ _ (Kp.refl _ _)
  have hvo1 : ∀ k, Value.ownBlock (.slice A1 n1 cp1) = some k → k ≠ w.heap.size := by
    intro k hk e
    rcases S2.own k hk with q | q
    · have := HVO.out k q; omega
    · have := HZ1.out; omega
  have hp3 := P2.kp hk3 hne hvo1
  have HCC := Lib.hid hcc
  have HFF := Lib.hid hff
  have HNW := Lib.hid hnw
  have HS2 := Lib.hid S2'
  have HP2 := Lib.hid P2
  have HK3 := Lib.hid hk3
  have HP3 := Lib.hid hp3
  have HV1 := Lib.hid hvo1
  clear hcc hff hnw S2 S2' hs1 hp1 P2 hown hge hb2 hA hk3 hp3 hvo1
  go_upto_region 10 with (go_at_call 131; refine (EncodeRune_any w.heap.size c HC.out _ _ _ _ _ (HCC.out 0 (by decide)) (HCC.out 1 (by decide)) (HCC.out 2 (by decide)) (HCC.out 3 (by decide)) (HFF.out 0) (HFF.out 1) (HFF.out 2) (HFF.out 3)).mono ?_; rintro e w' ⟨rfl, rfl⟩)
  have hp3 := HP3.out
  have hnw := HNW.out
  have hst : Stp g (.slice A n cp) (.slice A1 n1 cp1) w (((w1.setCell ⟨g, 15, none⟩ (.slice A1 n1 cp1)).setCells w.heap.size 0 (bys (encd c)))) :=
    ⟨HS2.out.kp.trans' HK3.out (fun i hi e => by omega), HS2.out.own⟩
  clear HK3 HP3 HNW HCC HFF
  generalize ((w1.setCell ⟨g, 15, none⟩ (.slice A1 n1 cp1)).setCells w.heap.size 0 (bys (encd c))) = W3 at *
  obtain ⟨z3, z5, z6, z7, z9, z15, zf⟩ := hp3.f
  have hp3d := hp3.below ((Kp.refl _ W3).drew)
  have HP := Lib.hid hp3d
  have HNW := Lib.hid hnw
  have HST := Lib.hid hst
  clear hp3d hp3 hnw hst y3 y5 y6 y7 y9 y15 yf z3 z5 z6 z7 z9 c15 d15
  generalize hLL : (encd c).length = L at *
  have HLL := Lib.hid hLL
  clear hLL
  have hi0 : (0 : Int) ≤ (L : Int) := by omega
  have hi4 : (L : Int) ≤ 4 := by omega
  have hbt3 : (css ++ [92]).length + L ≤ 140737488355328 := by rw [List.length_append]; simp; omega
  obtain ⟨z15d, zfd⟩ : (W3.drew).cell? ⟨g, 15, none⟩ = some (.slice A1 n1 cp1) ∧ (W3.drew).frozen? ⟨g, 15, none⟩ = false := ⟨z15, zf⟩
  go_region_law ((refine step_app_bys (.tmp 75) (.tmp 77) (by rfl) (by rfl) G _ (css ++ [92]) (by rfl) HP.out.own ⟨w.heap.size, 0, none⟩ L 4 (encd c) (by rfl) HLL.out (fun j u hu => by rw [add_at]; have := HNW.out j u hu; rw [Nat.zero_add] at this; exact this) hbt3 HP.out.ge ?_; intro v' w4 hA; obtain ⟨A', n', cp', rfl⟩ := hA.form; obtain ⟨c15, d15⟩ := HP.out.at1 hA))
  have hw := Wr.of h (HP.out.app hA).1 (HST.out.trans ((HP.out.app hA).2.pre ((Kp.refl _ W3).drew)))
  rw [List.append_assoc] at hw
  have HW := Lib.hid hw
  clear hw hA h
  go_wp2
  go_end0
  exact ⟨rfl, HW.out⟩

theorem esc_bd (F : Go.Stop.Interp) (G g : Nat) (m a : Bool) (v : Value) (css : List UInt8) (c : Int) (s : ByteArray) (last : Bool) (w : World) (h : Pn F G w g m a v css) (hc : Scal c) (hx : 102 < c) (hb : css.length + 100 ≤ 140737488355328) :
    Calls Tryz.prog 101 #[.pointer (some ⟨g, 0, none⟩), .int .i32 c, .int .u8 1, .string s, .bool last] w fun e w' => e = .returned (.tuple #[]) ∧ Wr F G g m a v w (css ++ 92 :: encd c) w' := by
  obtain ⟨y3, y5, y6, y7, y9, y15, yf⟩ := h.pr.f
  have hlt := h.pr.lt
  have hne : g ≠ w.heap.size := by omega
  obtain ⟨A, n, cp, rfl⟩ := own_slice h.pr.own
  have hL := encd_len c
  skip
  have hs1 : Kp (fun _ => False) w ((w.alloc (.cells #[.int .u8 0, .int .u8 0, .int .u8 0, .int .u8 0] 340)).alloc (.cells #[.int .u8 92] 5)) := ((Kp.refl _ w).alloc _).alloc _
  have hp1 := h.pr.below hs1
  have hown := hp1.own
  have hge := hp1.ge
  have hbt : css.length + 1 ≤ 140737488355328 := by omega
  have hb1 : ((w.alloc (.cells #[.int .u8 0, .int .u8 0, .int .u8 0, .int .u8 0] 340)).alloc (.cells #[.int .u8 92] 5)).heap[w.heap.size]? = some (.cells #[.int .u8 0, .int .u8 0, .int .u8 0, .int .u8 0] 340) := by
    rw [Below.heap_alloc _ _ _ (by simp)]; exact heap_alloc_new w _
  have hvo : ∀ k, Value.ownBlock (.slice A n cp) = some k → k < w.heap.size := fun k hk => (own_lt h.pr.own k hk).2.1
  have hz1 : w.heap.size < ((w.alloc (.cells #[.int .u8 0, .int .u8 0, .int .u8 0, .int .u8 0] 340)).alloc (.cells #[.int .u8 92] 5)).heap.size := by simp; omega
  have HC := Lib.hid hc
  have HB1 := Lib.hid hb1
  have HVO := Lib.hid hvo
  have HZ1 := Lib.hid hz1
  clear hc hb1 hvo hz1
  go_enter Tryz.func101, Tryz.ntmps101
  go_wp2_with (at_builtin; refine app_bys (.tmp 63) (.tmp 64) rfl rfl G _ css rfl hown ⟨w.heap.size + 1, 0, none⟩ 1 1 [92] (by simp [Act.eval]) rfl (fun j u hu => by simpa using kk_lit (w := w.alloc (.cells #[.int .u8 0, .int .u8 0, .int .u8 0, .int .u8 0] 340)) j u 92 hu) hbt hge ?_)
  intro v1 w1 hA
  obtain ⟨A1, n1, cp1, rfl⟩ := hA.form
  generalize ((w.alloc (.cells #[.int .u8 0, .int .u8 0, .int .u8 0, .int .u8 0] 340)).alloc (.cells #[.int .u8 92] 5)) = W1 at *
  obtain ⟨c15, d15⟩ := hp1.at1 hA
  obtain ⟨P2, S2⟩ := hp1.app hA
  have S2' := S2.pre hs1
  have hb2 : (w1.setCell ⟨g, 15, none⟩ (.slice A1 n1 cp1)).heap[w.heap.size]? = some (.cells #[.int .u8 0, .int .u8 0, .int .u8 0, .int .u8 0] 340) := by
    rw [S2.kp.block _ HZ1.out (by rintro (e | e); exact hne e.symm; have := HVO.out _ e; omega)]; exact HB1.out
  have hcc : ∀ j, j < 4 → (w1.setCell ⟨g, 15, none⟩ (.slice A1 n1 cp1)).cell? ⟨w.heap.size, j, none⟩ = some (.int .u8 0) := by
    intro j hj4
    simp only [World.cell?, hb2]
    match j, hj4 with
    | 0, _ => rfl
    | 1, _ => rfl
    | 2, _ => rfl
    | 3, _ => rfl
  have hff : ∀ j, (w1.setCell ⟨g, 15, none⟩ (.slice A1 n1 cp1)).frozen? ⟨w.heap.size, j, none⟩ = false := by
    intro j
    unfold World.frozen?
    rw [hb2]
    simp
  have hnw := fun j u (hj : (bys (encd c))[j]? = some u) => setCells_cell (w1.setCell ⟨g, 15, none⟩ (.slice A1 n1 cp1)) w.heap.size (bys (encd c)) 0 (by
    intro j hj
    rw [Nat.zero_add, hcc j (by rw [bys_length] at hj; omega)]; rfl) j u hj
  have hk3 : Kp (fun k => k = w.heap.size) (w1.setCell ⟨g, 15, none⟩ (.slice A1 n1 cp1)) ((w1.setCell ⟨g, 15, none⟩ (.slice A1 n1 cp1)).setCells w.heap.size 0 (bys (encd c))) := setCells_kq _ _ _ _ (Kp.refl _ _)
  have hvo1 : ∀ k, Value.ownBlock (.slice A1 n1 cp1) = some k → k ≠ w.heap.size := by
    intro k hk e
    rcases S2.own k hk with q | q
    · have := HVO.out k q; omega
    · have := HZ1.out; omega
  have hp3 := P2.kp hk3 hne hvo1
  have HCC := Lib.hid hcc
  have HFF := Lib.hid hff
  have HNW := Lib.hid hnw
  have HS2 := Lib.hid S2'
  have HP2 := Lib.hid P2
  have HK3 := Lib.hid hk3
  have HP3 := Lib.hid hp3
  have HV1 := Lib.hid hvo1
  clear hcc hff hnw S2 S2' hs1 hp1 P2 hown hge hb2 hA hk3 hp3 hvo1
  go_upto_region 10 with (go_at_call 131; refine (EncodeRune_any w.heap.size c HC.out _ _ _ _ _ (HCC.out 0 (by decide)) (HCC.out 1 (by decide)) (HCC.out 2 (by decide)) (HCC.out 3 (by decide)) (HFF.out 0) (HFF.out 1) (HFF.out 2) (HFF.out 3)).mono ?_; rintro e w' ⟨rfl, rfl⟩)
  have hp3 := HP3.out
  have hnw := HNW.out
  have hst : Stp g (.slice A n cp) (.slice A1 n1 cp1) w (((w1.setCell ⟨g, 15, none⟩ (.slice A1 n1 cp1)).setCells w.heap.size 0 (bys (encd c)))) :=
    ⟨HS2.out.kp.trans' HK3.out (fun i hi e => by omega), HS2.out.own⟩
  clear HK3 HP3 HNW HCC HFF
  generalize ((w1.setCell ⟨g, 15, none⟩ (.slice A1 n1 cp1)).setCells w.heap.size 0 (bys (encd c))) = W3 at *
  obtain ⟨z3, z5, z6, z7, z9, z15, zf⟩ := hp3.f
  have hp3d := hp3.below ((Kp.refl _ W3).drew)
  have HP := Lib.hid hp3d
  have HNW := Lib.hid hnw
  have HST := Lib.hid hst
  clear hp3d hp3 hnw hst y3 y5 y6 y7 y9 y15 yf z3 z5 z6 z7 z9 c15 d15
  generalize hLL : (encd c).length = L at *
  have HLL := Lib.hid hLL
  clear hLL
  have hi0 : (0 : Int) ≤ (L : Int) := by omega
  have hi4 : (L : Int) ≤ 4 := by omega
  have hbt3 : (css ++ [92]).length + L ≤ 140737488355328 := by rw [List.length_append]; simp; omega
  obtain ⟨z15d, zfd⟩ : (W3.drew).cell? ⟨g, 15, none⟩ = some (.slice A1 n1 cp1) ∧ (W3.drew).frozen? ⟨g, 15, none⟩ = false := ⟨z15, zf⟩
  go_region_law ((refine step_app_bys (.tmp 75) (.tmp 77) (by rfl) (by rfl) G _ (css ++ [92]) (by rfl) HP.out.own ⟨w.heap.size, 0, none⟩ L 4 (encd c) (by rfl) HLL.out (fun j u hu => by rw [add_at]; have := HNW.out j u hu; rw [Nat.zero_add] at this; exact this) hbt3 HP.out.ge ?_; intro v' w4 hA; obtain ⟨A', n', cp', rfl⟩ := hA.form; obtain ⟨c15, d15⟩ := HP.out.at1 hA))
  have hw := Wr.of h (HP.out.app hA).1 (HST.out.trans ((HP.out.app hA).2.pre ((Kp.refl _ W3).drew)))
  rw [List.append_assoc] at hw
  have HW := Lib.hid hw
  clear hw hA h
  go_wp2
  go_end0
  exact ⟨rfl, HW.out⟩


/-- printWithEscape. -/
theorem Escape_any (F : Go.Stop.Interp) (G g : Nat) (m a : Bool) (v : Value) (css : List UInt8) (k c : Int) (s : ByteArray) (rest : List UInt8) (last : Bool) (w : World) (h : Pn F G w g m a v css) (hc : Scal c) (hk : k = 0 ∨ k = 2 ∨ k = 1 ∧ (hexv c < 0 ∨ 48 ≤ c ∧ c ≤ 57)) (hb : css.length + 100 ≤ 140737488355328) (hs : s.data.toList = encd c ++ rest) :
    Calls Tryz.prog 101 #[.pointer (some ⟨g, 0, none⟩), .int .i32 c, .int .u8 k, .string s, .bool last] w fun e w' => e = .returned (.tuple #[]) ∧ Wr F G g m a v w (css ++ escP k c rest last) w' := by
  rcases hk with rfl | rfl | ⟨rfl, hx | ⟨h0, h1⟩⟩
  · exact esc_none F G g m a v css c s last w h hc hb
  · have e : escP 2 c rest last = hexP c rest last := by simp [escP]
    rw [e]
    exact hex_all F G g m a v css c s rest last w h hc hb hs
  · have e : escP 1 c rest last = 92 :: encd c := by simp [escP, hx]
    rw [e]
    have hn : ¬ (0 ≤ hexv c) := by omega
    rw [hexv_ge] at hn
    by_cases q1 : c < 48
    · exact esc_ba F G g m a v css c s last w h hc q1 hb
    by_cases q2 : c < 65
    · exact esc_bb F G g m a v css c s last w h hc ⟨by omega, q2⟩ hb
    by_cases q3 : c < 97
    · exact esc_bc F G g m a v css c s last w h hc ⟨by omega, q3⟩ hb
    · exact esc_bd F G g m a v css c s last w h hc (by omega) hb
  · have hn : ¬ hexv c < 0 := by have := (hexv_ge c).2 (by omega); omega
    have e : escP 1 c rest last = hexP c rest last := by simp [escP, hn]
    rw [e]
    exact dig_all F G g m a v css c s rest last w h h0 h1 hb hs

end Go.Proofs.YtkaejhdncohgpaaGreatFmt

/- Walk: WouldStartIdentifierWithoutEscapes. -/
namespace Go.Proofs.YtkaejhdncohgpaaGreatFmt
set_option linter.all false
open Go.RowKit Go.Lib
set_option maxRecDepth 100000
set_option maxHeartbeats 1000000

theorem Kp.ofBelow {w w' : World} (h : Below w.heap.size w w') : Kp (fun _ => False) w w' := ⟨h.os, h.tape, h.output, h.size, fun k hk _ => h.block k hk⟩
theorem Kp.utf {w w' : World} (hT : Lib.Utf8Tabs 1 2 w) (h : Kp (fun _ => False) w w') : Lib.Utf8Tabs 1 2 w' := Utf8Tabs_below hT (h.below (Nat.le_refl _) fun _ _ f => f)
theorem Decode_cons (s : ByteArray) (c : Int) (r : List UInt8) (w : World) (hT : Lib.Utf8Tabs 1 2 w) (hc : Scal c) (hs : s.data.toList = encd c ++ r) :
    Calls Tryz.prog 98 #[.string s] w fun e w' => e = .returned (.tuple #[.int .i32 c, .int .i64 ((encd c).length : Nat)]) ∧ Kp (fun _ => False) w w' := by
  refine (Tryz.utf8_DecodeRuneInString s w hT).mono ?_
  rintro e w' ⟨rfl, h⟩
  have hz := size_app s _ _ hs
  have hl := (encd_len c).1
  have e : Lib.decodeGo s = (c.toNat, (encd c).length) := by
    unfold Lib.decodeGo
    rw [if_neg (by omega)]
    exact decode_encd s 0 c hc r (by simpa using hs)
  have hc0 : (c.toNat : Int) = c := by unfold Scal at hc; omega
  exact ⟨by rw [e]; simp [hc0], Kp.ofBelow h⟩
theorem Decode_nil (s : ByteArray) (w : World) (hT : Lib.Utf8Tabs 1 2 w) (hs : s.size = 0) :
    Calls Tryz.prog 98 #[.string s] w fun e w' => e = .returned (.tuple #[.int .i32 65533, .int .i64 0]) ∧ Kp (fun _ => False) w w' := by
  refine (Tryz.utf8_DecodeRuneInString s w hT).mono ?_
  rintro e w' ⟨rfl, h⟩
  have e : Lib.decodeGo s = (65533, 0) := by simp [Lib.decodeGo, hs]
  exact ⟨by rw [e]; rfl, Kp.ofBelow h⟩

theorem ext_list (s : ByteArray) (n : Nat) (l r : List UInt8) (hs : s.data.toList = l ++ r) (hl : l.length = n) : (s.extract n s.size).data.toList = r := by
  have hz := size_app s l r hs
  simp only [ByteArray.data_extract, Array.toList_extract]
  rw [hs, List.extract_eq_take_drop, ← hl, List.drop_left, List.take_of_length_le (by omega)]

theorem sz_nil (s : ByteArray) (h : s.data.toList = encs []) : s.size = 0 := by
  have : s.data.toList.length = 0 := by rw [h]; rfl
  simpa using this

/-- An identifier would begin without escapes. -/
def wst : List Int → Bool
  | [] => false
  | c :: r => nameSt c || decide (c = 45) && (match r with | [] => false | d :: _ => nameSt d || decide (d = 45))
theorem WouldStart_any (s : ByteArray) (cs : List Int) (w : World) (hT : Lib.Utf8Tabs 1 2 w) (hc : ∀ c ∈ cs, Scal c) (hs : s.data.toList = encs cs) :
    Calls Tryz.prog 112 #[.string s] w fun e w' => e = .returned (.bool (wst cs)) ∧ Kp (fun _ => False) w w' := by
  match cs, hc, hs with
  | [], _, hs =>
    have hz : s.size = 0 := by have := size_app s [] [] (by simpa [encs] using hs); simpa using this
    have HD := Lib.hid (Decode_nil s w hT hz)
    clear hz hs hT
    go_enter Tryz.func112, Tryz.ntmps112
    go_wp2_with (go_at_call 98; (refine HD.out.mono ?_); rintro e w' ⟨rfl, hk⟩)
    go_ret
    exact ⟨rfl, hk⟩
  | c :: r, hc, hs =>
    have hcc := hc c (by simp)
    rw [encs_cons] at hs
    have HD := Lib.hid (Decode_cons s c (encs r) w hT hcc hs)
    have hl := encd_len c
    have hz := size_app s _ _ hs
    have h65 : c = 65533 → (encd c).length = 3 := by rintro rfl; rfl
    cases hst : nameSt c
    · have hlo : c < 128 := by simp [nameSt, starts] at hst; omega
      have h33 : ((c == 65533) : Bool) = false := by simp; omega
      cases h45 : ((c == 45) : Bool)
      · have HC2 : Hid (wst (c :: r) = false) := by refine Lib.hid ?_; simp at h45; simp [wst, hst, h45]
        have HH := Lib.hid hst
        clear hst hs hz h65 hcc hc hT
        go_enter Tryz.func112, Tryz.ntmps112
        go_wp2_with (first | (go_at_call 98; (refine HD.out.mono ?_); rintro e w' ⟨rfl, hk⟩) | (go_at_call 136; (with_reducible refine (IsNameStart_any ..).mono ?_); rw [HH.out]; rintro e w1 ⟨rfl, rfl⟩))
        go_ret
        exact ⟨by rw [HC2.out]; rfl, hk⟩
      · simp at h45
        subst h45
        have hx : (s.extract 1 s.size).data.toList = encs r := ext_list s 1 (encd 45) (encs r) hs rfl
        have hl1 : (encd 45).length = 1 := rfl
        rw [hl1] at HD
        have hs1 : 1 ≤ s.size := by omega
        have HH := Lib.hid hst
        match r, hx with
        | [], hx =>
          have hz0 : (s.extract 1 s.size).size = 0 := sz_nil _ hx
          have HD2 := Lib.hid (fun w' (hk : Kp (fun _ => False) w w') => Decode_nil (s.extract 1 s.size) w' (Kp.utf hT hk) hz0)
          clear hst hs hz h65 hcc hc hT hx hl hl1 hz0
          go_enter Tryz.func112, Tryz.ntmps112
          go_wp2_with (first | (go_at_call 98; first | (with_reducible (refine HD.out.mono ?_); rintro e w' ⟨rfl, hk⟩) | (with_reducible (refine (HD2.out _ hk).mono ?_); rintro e w2 ⟨rfl, hk2⟩)) | (go_at_call 136; (with_reducible refine (IsNameStart_any ..).mono ?_); rw [HH.out]; rintro e w1 ⟨rfl, rfl⟩))
          go_ret
          exact ⟨rfl, hk.trans hk2⟩
        | d :: r, hx =>
          have hd := hc d (by simp)
          rw [encs_cons] at hx
          have HD2 := Lib.hid (fun w' (hk : Kp (fun _ => False) w w') => Decode_cons (s.extract 1 s.size) d (encs r) w' (Kp.utf hT hk) hd hx)
          have hl2 := encd_len d
          cases hst2 : nameSt d
          · have hlo2 : d < 128 := by simp [nameSt, starts] at hst2; omega
            have h332 : ((d == 65533) : Bool) = false := by simp; omega
            have HH2 := Lib.hid hst2
            have HW : Hid (wst (45 :: d :: r) = (d == 45)) := by
              refine Lib.hid ?_
              have := HH.out
              simp only [wst, HH.out, hst2]
              rw [Bool.eq_iff_iff]; simp
            clear hst hs hz h65 hcc hc hT hx hl hl1 hst2 hd
            cases h452 : ((d == 45) : Bool)
            · rw [h452] at HW
              go_enter Tryz.func112, Tryz.ntmps112
              go_wp2_with (first | (go_at_call 98; first | (with_reducible (refine HD.out.mono ?_); rintro e w' ⟨rfl, hk⟩) | (with_reducible (refine (HD2.out _ hk).mono ?_); rintro e w2 ⟨rfl, hk2⟩)) | (go_at_call 136; (with_reducible refine (IsNameStart_any ..).mono ?_); (first | rw [HH.out] | rw [HH2.out]); rintro e w1 ⟨rfl, rfl⟩))
              go_ret
              exact ⟨by rw [HW.out]; rfl, hk.trans hk2⟩
            · rw [h452] at HW
              go_enter Tryz.func112, Tryz.ntmps112
              go_wp2_with (first | (go_at_call 98; first | (with_reducible (refine HD.out.mono ?_); rintro e w' ⟨rfl, hk⟩) | (with_reducible (refine (HD2.out _ hk).mono ?_); rintro e w2 ⟨rfl, hk2⟩)) | (go_at_call 136; (with_reducible refine (IsNameStart_any ..).mono ?_); (first | rw [HH.out] | rw [HH2.out]); rintro e w1 ⟨rfl, rfl⟩))
              go_ret
              exact ⟨by rw [HW.out]; rfl, hk.trans hk2⟩
          · have HH2 := Lib.hid hst2
            have HW : Hid (wst (45 :: d :: r) = true) := by
              refine Lib.hid ?_
              simp only [wst, HH.out, hst2]
              simp
            clear hst hs hz h65 hcc hc hT hx hl hl1 hst2 hd
            by_cases h3 : d = 65533
            · subst h3
              have hl3 : (encd 65533).length = 3 := rfl
              rw [hl3] at HD2
              clear hl2 hl3
              go_enter Tryz.func112, Tryz.ntmps112
              go_wp2_with (first | (go_at_call 98; first | (with_reducible (refine HD.out.mono ?_); rintro e w' ⟨rfl, hk⟩) | (with_reducible (refine (HD2.out _ hk).mono ?_); rintro e w2 ⟨rfl, hk2⟩)) | (go_at_call 136; (with_reducible refine (IsNameStart_any ..).mono ?_); (first | rw [HH.out] | rw [HH2.out]); rintro e w1 ⟨rfl, rfl⟩))
              go_ret
              exact ⟨by rw [HW.out]; rfl, hk.trans hk2⟩
            · have h332 : ((d == 65533) : Bool) = false := by simp; omega
              clear h3
              go_enter Tryz.func112, Tryz.ntmps112
              go_wp2_with (first | (go_at_call 98; first | (with_reducible (refine HD.out.mono ?_); rintro e w' ⟨rfl, hk⟩) | (with_reducible (refine (HD2.out _ hk).mono ?_); rintro e w2 ⟨rfl, hk2⟩)) | (go_at_call 136; (with_reducible refine (IsNameStart_any ..).mono ?_); (first | rw [HH.out] | rw [HH2.out]); rintro e w1 ⟨rfl, rfl⟩))
              go_ret
              exact ⟨by rw [HW.out]; rfl, hk.trans hk2⟩
    · have HC2 : Hid (wst (c :: r) = true) := by refine Lib.hid ?_; simp [wst, hst]
      have HH := Lib.hid hst
      clear hst hs hz hcc hc hT
      by_cases h3 : c = 65533
      · subst h3
        have hl3 := h65 rfl
        rw [hl3] at HD
        clear h65 hl hl3
        go_enter Tryz.func112, Tryz.ntmps112
        go_wp2_with (first | (go_at_call 98; (refine HD.out.mono ?_); rintro e w' ⟨rfl, hk⟩) | (go_at_call 136; (with_reducible refine (IsNameStart_any ..).mono ?_); rw [HH.out]; rintro e w1 ⟨rfl, rfl⟩))
        go_ret
        exact ⟨by rw [HC2.out]; rfl, hk⟩
      · have h33 : ((c == 65533) : Bool) = false := by simp; omega
        clear h65 h3
        go_enter Tryz.func112, Tryz.ntmps112
        go_wp2_with (first | (go_at_call 98; (refine HD.out.mono ?_); rintro e w' ⟨rfl, hk⟩) | (go_at_call 136; (with_reducible refine (IsNameStart_any ..).mono ?_); rw [HH.out]; rintro e w1 ⟨rfl, rfl⟩))
        go_ret
        exact ⟨by rw [HC2.out]; rfl, hk⟩
end Go.Proofs.YtkaejhdncohgpaaGreatFmt

/- What an identifier is printed as; the walk's small laws. -/
namespace Go.Proofs.YtkaejhdncohgpaaGreatFmt
set_option linter.all false
open Go.RowKit Go.Lib
set_option maxRecDepth 100000
set_option maxHeartbeats 1000000

/-- How a code point that is not the first one is printed: 0 as it is, 1 behind a backslash, 2 in hexadecimal digits. -/
def hexK (a : Bool) (c : Int) : Bool := a && decide (128 ≤ c) || decide (c = 13 ∨ c = 10 ∨ c = 12 ∨ c = 65279)
def esck (a : Bool) (c : Int) : Int := if hexK a c then 2 else if nameCo c then 0 else 1
/-- ... and the first one, if its own escape is i. -/
def escF (a : Bool) (i : Int) (c : Int) : Int := if hexK a c then 2 else if i ≠ 0 then i else if nameCo c then 0 else 1
/-- The first code point's own escape. -/
def iniE (mode : Int) (cs : List Int) : Int :=
  if mode = 1 then 0 else if wst cs = false then 1 else if mode = 0 then 0 else
    match cs with
    | c :: d :: r => if (c = 101 ∨ c = 69) ∧ mode ≠ 3 ∧ (isDig d = true ∨ d = 45 ∧ (match r with | e :: _ => isDig e | [] => false) = true) then 2 else 0
    | _ => 0
def slowT (a wh : Bool) : List Int → List UInt8
  | [] => []
  | c :: r => escP (esck a c) c (encs r) (wh && decide (esck a c ≠ 0) && r.isEmpty) ++ slowT a wh r
def identP (a wh : Bool) (i : Int) : List Int → List UInt8
  | [] => []
  | c :: r => escP (escF a i c) c (encs r) (wh && decide (escF a i c ≠ 0) && r.isEmpty) ++ slowT a wh r

theorem Kp.iterAt {S : Nat → Prop} {a b : World} (h : Kp S a b) {k : Nat} (hk : S k ∨ a.heap.size ≤ k) (s : ByteArray) (p : Nat) : Kp S a (b.iterAt k s p) :=
  ⟨h.os, h.tape, h.output, by rw [Lib.iterAt_size]; exact h.size, fun i hi hs => by
    rw [Lib.iterAt_other _ _ _ _ _ (by rintro rfl; rcases hk with hk | hk; exact hs hk; omega)]; exact h.block i hi hs⟩

/-- The state of the loop over a name's code points: dn are printed, rs are not. -/
structure IdS (F : Go.Stop.Interp) (G g : Nat) (m a wh : Bool) (i : Int) (v : Value) (css : List UInt8) (s : ByteArray) (cs : List Int) (w : World) (ib : Nat) (wr : World) (dn rs : List Int) (v1 : Value) (acc : List UInt8) : Prop where
  eq : dn ++ rs = cs
  it : wr.heap[ib]? = some (.stringIter s (encs dn).length)
  gi : w.heap.size ≤ ib
  pn : Pn F G wr g m a v1 (css ++ acc)
  st : Stp g v v1 w wr
  ac : acc ++ (if dn = [] then identP a wh i rs else slowT a wh rs) = identP a wh i cs
  ln : acc.length ≤ 8 * (encs dn).length

theorem Pn.iter {F : Go.Stop.Interp} {G g ib : Nat} {m a : Bool} {v1 : Value} {css : List UInt8} {wr : World} {s : ByteArray} {p : Nat} (h : Pn F G wr g m a v1 css) (hi : wr.heap[ib]? = some (.stringIter s p)) (hG : G ≤ ib) (q : Nat) : Pn F G (wr.iterAt ib s q) g m a v1 css ∧ v1.ownBlock ≠ some ib ∧ g ≠ ib := by
  have hv : v1.ownBlock ≠ some ib := by
    intro e
    obtain ⟨_, _, cur, hc⟩ := own_lt h.pr.own ib e
    rw [hi] at hc; cases hc
  have hg : g ≠ ib := by
    rintro rfl
    obtain ⟨cs, hb, _⟩ := h.pr.blk
    rw [hi] at hb; cases hb
  have hk : Kp (fun k => k = ib) wr (wr.iterAt ib s q) := Kp.iterAt (S := fun k => k = ib) (Kp.refl _ wr) (.inl rfl) s q
  exact ⟨⟨h.pr.kp hk hg (fun k hk e => hv (by rw [← e]; exact hk)), h.gg, h.tb.kp hk (fun k e => by omega)⟩, hv, hg⟩
theorem IdS.go {F : Go.Stop.Interp} {G g : Nat} {m a wh : Bool} {i : Int} {v : Value} {css : List UInt8} {s : ByteArray} {cs : List Int} {w : World} {ib : Nat} {wr : World} {dn rs : List Int} {v1 : Value} {acc : List UInt8} (h : IdS F G g m a wh i v css s cs w ib wr dn rs v1 acc) (hG : G ≤ ib) (q : Nat) :
    Pn F G (wr.iterAt ib s q) g m a v1 (css ++ acc) ∧ Stp g v v1 w (wr.iterAt ib s q) ∧ (wr.iterAt ib s q).heap[ib]? = some (.stringIter s q) ∧ v1.ownBlock ≠ some ib ∧ g ≠ ib := by
  obtain ⟨h1, h2, h3⟩ := h.pn.iter h.it hG q
  exact ⟨h1, ⟨h.st.kp.iterAt (.inr h.gi) s q, h.st.own⟩, Lib.iterAt_heap _ _ _ _ _ h.it, h2, h3⟩

theorem escP_len (k c : Int) (r : List UInt8) (last : Bool) (h0 : 0 ≤ c) (h1 : c ≤ 1114111) : (escP k c r last).length ≤ 8 := by
  have := (encd_len c).2
  have := hexL_len c h0 h1
  have hs : (spaced r last).length ≤ 1 := by
    unfold spaced
    split
    · split <;> simp
    · split <;> simp
  unfold escP
  split
  · omega
  split
  · simp; omega
  · unfold hexP
    split
    · simp; omega
    · simp; omega
theorem encs_len : ∀ (cs : List Int), cs.length ≤ (encs cs).length
  | [] => Nat.le_refl _
  | c :: r => by rw [encs_cons]; have := (encd_len c).1; have := encs_len r; simp; omega
/-- One code point more. -/
theorem IdS.next {F : Go.Stop.Interp} {G g : Nat} {m a wh : Bool} {i : Int} {v : Value} {css : List UInt8} {s : ByteArray} {cs : List Int} {w : World} {ib : Nat} {wr wr2 wr3 : World} {dn r : List Int} {c : Int} {v1 : Value} {acc : List UInt8}
    (h : IdS F G g m a wh i v css s cs w ib wr dn (c :: r) v1 acc) (hc : Scal c) (k : Int) (hk : k = if dn = [] then escF a i c else esck a c)
    (hst : Stp g v v1 w wr2) (hi2 : wr2.heap[ib]? = some (.stringIter s ((encs dn).length + (encd c).length))) (hib : v1.ownBlock ≠ some ib) (hg : g ≠ ib)
    (hw : Wr F G g m a v1 wr2 (css ++ acc ++ escP k c (encs r) (wh && decide (k ≠ 0) && r.isEmpty)) wr3) :
    ∃ v2 acc2, IdS F G g m a wh i v css s cs w ib wr3 (dn ++ [c]) r v2 acc2 := by
  obtain ⟨v2, hp, hs⟩ := hw
  refine ⟨v2, acc ++ escP k c (encs r) (wh && decide (k ≠ 0) && r.isEmpty), ⟨by rw [← h.eq]; simp, ?_, h.gi, by rw [← List.append_assoc]; exact hp, hst.trans hs, ?_, ?_⟩⟩
  · have hlt : ib < wr2.heap.size := (Array.getElem?_eq_some_iff.1 hi2).1
    rw [hs.kp.block ib hlt (by rintro (e | e); exact hg e.symm; exact hib e), hi2]
    simp [encs_app, encs_cons, encs_nil]
  · rw [← h.ac]
    subst hk
    by_cases hd : dn = []
    · subst hd
      simp [identP, List.append_assoc]
    · simp [hd, slowT, List.append_assoc]
  · have := h.ln
    have := escP_len k c (encs r) (wh && decide (k ≠ 0) && r.isEmpty) (by unfold Scal at hc; omega) (by unfold Scal at hc; omega)
    have := (encd_len c).1
    simp only [List.length_append, encs_app, encs_cons, encs_nil, List.length_nil] at *
    omega

theorem IdS.stop {F : Go.Stop.Interp} {G g : Nat} {m a wh : Bool} {i : Int} {v : Value} {css : List UInt8} {s : ByteArray} {cs : List Int} {w : World} {ib : Nat} {wr : World} {dn : List Int} {v1 : Value} {acc : List UInt8}
    (h : IdS F G g m a wh i v css s cs w ib wr dn [] v1 acc) (hs : s.data.toList = encs cs) : (∀ ty, (Instr.next (.pointer (some ⟨ib, 0, none⟩)) true ty).run Tryz.prog wr = .ok (.tuple #[.bool false]) wr) ∧ Wr F G g m a v w (css ++ identP a wh i cs) wr := by
  have e : dn = cs := by rw [← h.eq]; simp
  have hz : s.size = (encs dn).length := by rw [e, ← hs]; simp
  refine ⟨fun ty => Lib.run_next_end_at wr ib s _ ty h.it (by omega), v1, ?_, h.st⟩
  have h2 := h.ac
  have e2 : acc = identP a wh i cs := by
    rw [← h2]
    split
    · simp [identP]
    · simp [slowT]
  rw [← e2]; exact h.pn
theorem drop_encs (s : ByteArray) (dn rs : List Int) (h : s.data.toList = encs (dn ++ rs)) : s.data.toList.drop (encs dn).length = encs rs := by
  rw [h, encs_app, List.drop_left]
theorem IdS.step {F : Go.Stop.Interp} {G g : Nat} {m a wh : Bool} {i : Int} {v : Value} {css : List UInt8} {s : ByteArray} {cs : List Int} {w : World} {ib : Nat} {wr : World} {dn r : List Int} {c : Int} {v1 : Value} {acc : List UInt8}
    (h : IdS F G g m a wh i v css s cs w ib wr dn (c :: r) v1 acc) (hs : s.data.toList = encs cs) (hc : Scal c) :
    (∀ ty, (Instr.next (.pointer (some ⟨ib, 0, none⟩)) true ty).run Tryz.prog wr = .ok (.tuple #[.bool true, .int .i64 ((encs dn).length : Nat), .int .i32 c]) (wr.iterAt ib s ((encs dn).length + (encd c).length))) ∧
    s.size = (encs dn).length + (encd c).length + (encs r).length ∧ (s.extract (encs dn).length s.size).data.toList = encd c ++ encs r := by
  have hz : s.size = (encs dn).length + (encd c).length + (encs r).length := by
    have : s.data.toList.length = (encs cs).length := by rw [hs]
    rw [← h.eq, encs_app, encs_cons] at this
    simp at this
    omega
  have hl := (encd_len c).1
  have hd : s.data.toList.drop (encs dn).length = encd c ++ encs r := by rw [drop_encs s dn (c :: r) (by rw [h.eq]; exact hs), encs_cons]
  refine ⟨fun ty => ?_, hz, ?_⟩
  · rw [Lib.run_next_any_at wr ib s _ ty h.it (by omega), decode_encd s _ c hc (encs r) hd]
    have hc0 : (c.toNat : Int) = c := by unfold Scal at hc; omega
    simp [hc0]
  · exact ext_list s _ (encs dn) _ (by rw [hs, ← h.eq, encs_app, encs_cons]) rfl

theorem hexv_of_st {c : Int} (h : nameSt c = false) : hexv c < 0 ∨ 48 ≤ c ∧ c ≤ 57 := by
  simp [nameSt, starts] at h
  by_cases q : 48 ≤ c ∧ c ≤ 57
  · exact .inr q
  · left
    have := mt (hexv_ge c).1 (by omega)
    omega
theorem hexv_of_co {c : Int} (h : nameCo c = false) : hexv c < 0 := by
  simp [nameCo, conts, starts, isDig] at h
  have := mt (hexv_ge c).1 (by omega)
  omega
theorem kk_ok (a : Bool) (i c kk : Int) (dn : List Int) (hkk : kk = if dn = [] then escF a i c else esck a c) (hi : i = 0 ∨ i = 2 ∨ i = 1 ∧ (dn = [] → nameSt c = false)) : kk = 0 ∨ kk = 2 ∨ kk = 1 ∧ (hexv c < 0 ∨ 48 ≤ c ∧ c ≤ 57) := by
  have hE : esck a c = 0 ∨ esck a c = 2 ∨ esck a c = 1 ∧ (hexv c < 0 ∨ 48 ≤ c ∧ c ≤ 57) := by
    unfold esck
    split
    · simp
    split
    · simp
    · rename_i h; right; right; exact ⟨rfl, .inl (hexv_of_co (by simpa using h))⟩
  subst hkk
  split
  · rename_i hd
    unfold escF
    split
    · simp
    split
    · rcases hi with h | h | ⟨h, h2⟩
      · omega
      · exact .inr (.inl h)
      · exact .inr (.inr ⟨h, hexv_of_st (h2 hd)⟩)
    split
    · simp
    · rename_i h; right; right; exact ⟨rfl, .inl (hexv_of_co (by simpa using h))⟩
  · exact hE
theorem wst_first {c : Int} {r : List Int} (h : wst (c :: r) = false) : nameSt c = false := by
  simp only [wst, Bool.or_eq_false_iff] at h
  exact h.1

end Go.Proofs.YtkaejhdncohgpaaGreatFmt
