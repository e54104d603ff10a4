/- Walk: printIndent at indent 0; printRule at an unknown at-rule without a block, and at a declaration. -/
import Derived.Test.YtkaejhdncohgpaaGreatFmtM8
namespace Go.Proofs.YtkaejhdncohgpaaGreatFmt
set_option linter.all false
open Go.RowKit Go.Lib
set_option maxRecDepth 100000
set_option maxHeartbeats 4000000
set_option linter.unusedSimpArgs false

theorem indent_0 (F : Go.Stop.Interp) (G g : Nat) (m a : Bool) (v : Value) (css : List UInt8) (w : World) (h : Pn F G w g m a v css) :
    Calls Tryz.prog 72 #[.pointer (some ⟨g, 0, none⟩), .int .i32 0] w fun e w' => e = .returned (.tuple #[]) ∧ w = w' := by
  obtain ⟨y3, y5, y6, y7, y9, y15, yf⟩ := h.pr.f
  have H := Lib.hid h
  clear h
  go_enter Tryz.func72, Tryz.ntmps72
  go_wp2
  refine wp_loop_rounds 1 ?_
  rw [rounds_succ]
  go_wp2
  go_end0
  exact ⟨rfl, rfl⟩

@[go_sem] theorem as59_172 (v : Value) (w : World) : (Instr.typeAssert (.iface 59 v) 83 172 true).run Tryz.prog w = .ok (.tuple #[.pointer none, .bool false]) w := by kernel_rfl
@[go_sem] theorem as59_183 (v : Value) (w : World) : (Instr.typeAssert (.iface 59 v) 83 183 true).run Tryz.prog w = .ok (.tuple #[.pointer none, .bool false]) w := by kernel_rfl
@[go_sem] theorem as59_189 (v : Value) (w : World) : (Instr.typeAssert (.iface 59 v) 83 189 true).run Tryz.prog w = .ok (.tuple #[.pointer none, .bool false]) w := by kernel_rfl
@[go_sem] theorem as59_220 (v : Value) (w : World) : (Instr.typeAssert (.iface 59 v) 83 220 true).run Tryz.prog w = .ok (.tuple #[.pointer none, .bool false]) w := by kernel_rfl
@[go_sem] theorem as59_235 (v : Value) (w : World) : (Instr.typeAssert (.iface 59 v) 83 235 true).run Tryz.prog w = .ok (.tuple #[.pointer none, .bool false]) w := by kernel_rfl
@[go_sem] theorem as59_59 (v : Value) (w : World) : (Instr.typeAssert (.iface 59 v) 83 59 true).run Tryz.prog w = .ok (.tuple #[v, .bool true]) w := by kernel_rfl
@[go_sem] theorem as65_172 (v : Value) (w : World) : (Instr.typeAssert (.iface 65 v) 83 172 true).run Tryz.prog w = .ok (.tuple #[.pointer none, .bool false]) w := by kernel_rfl
@[go_sem] theorem as65_183 (v : Value) (w : World) : (Instr.typeAssert (.iface 65 v) 83 183 true).run Tryz.prog w = .ok (.tuple #[.pointer none, .bool false]) w := by kernel_rfl
@[go_sem] theorem as65_189 (v : Value) (w : World) : (Instr.typeAssert (.iface 65 v) 83 189 true).run Tryz.prog w = .ok (.tuple #[.pointer none, .bool false]) w := by kernel_rfl
@[go_sem] theorem as65_220 (v : Value) (w : World) : (Instr.typeAssert (.iface 65 v) 83 220 true).run Tryz.prog w = .ok (.tuple #[.pointer none, .bool false]) w := by kernel_rfl
@[go_sem] theorem as65_235 (v : Value) (w : World) : (Instr.typeAssert (.iface 65 v) 83 235 true).run Tryz.prog w = .ok (.tuple #[.pointer none, .bool false]) w := by kernel_rfl
@[go_sem] theorem as65_59 (v : Value) (w : World) : (Instr.typeAssert (.iface 65 v) 83 59 true).run Tryz.prog w = .ok (.tuple #[.pointer none, .bool false]) w := by kernel_rfl
@[go_sem] theorem as65_179 (v : Value) (w : World) : (Instr.typeAssert (.iface 65 v) 83 179 true).run Tryz.prog w = .ok (.tuple #[.pointer none, .bool false]) w := by kernel_rfl
@[go_sem] theorem as65_87 (v : Value) (w : World) : (Instr.typeAssert (.iface 65 v) 83 87 true).run Tryz.prog w = .ok (.tuple #[.pointer none, .bool false]) w := by kernel_rfl
@[go_sem] theorem as65_65 (v : Value) (w : World) : (Instr.typeAssert (.iface 65 v) 83 65 true).run Tryz.prog w = .ok (.tuple #[v, .bool true]) w := by kernel_rfl
/-- What an unknown at-rule without a block prints. -/
def atT (m a : Bool) (cs : List Int) (l : List TD) : List UInt8 :=
  64 :: (identP a (decide (l ≠ [])) (iniE 0 cs) cs ++ ((if l = [] then [] else [32]) ++ (rowT a (firstW l) l ++ (59 :: if m then [] else [10]))))
/-- What a declaration prints. -/
def declT (m a imp : Bool) (cs : List Int) (l : List TD) : List UInt8 :=
  identP a false (iniE 0 cs) cs ++ (58 :: (rowT a (firstW l) l ++ ((if imp then (if !lastW (firstW l) l && !m && !l.isEmpty then [32] else []) ++ [33, 105, 109, 112, 111, 114, 116, 97, 110, 116] else []) ++ (59 :: if m then [] else [10]))))

theorem cell?_eq_of {w : World} {k : Nat} {cs : Array Value} {t : TypeId} (h : w.heap[k]? = some (.cells cs t)) : w.cell? ⟨k, 0, none⟩ = cs[0]? := by
  simp [World.cell?, h]
/-- Behind a call, at a rule. -/
structure StR (F : Go.Stop.Interp) (G g : Nat) (m a : Bool) (v1 : Value) (w2 : World) (R : Nat) (o : Obj) (sl : Value) (l : List TD) (cs : List UInt8) (wx : World) (vx : Value) : Prop where
  st : StA F G g m a v1 w2 cs wx vx
  blk : wx.heap[R]? = some o
  row : RowAt wx (· < G) sl l
  lt : R < G
theorem StR.go {F : Go.Stop.Interp} {G g : Nat} {m a : Bool} {v1 vx : Value} {w2 wx wy : World} {R : Nat} {o : Obj} {sl : Value} {l : List TD} {cs cs' : List UInt8} (h : StR F G g m a v1 w2 R o sl l cs wx vx) (hw : Wr F G g m a vx wx cs' wy) : ∃ vy, StR F G g m a v1 w2 R o sl l cs' wy vy := by
  have hfar := far_of h.st.pn
  have hge := h.st.pn.pr.ge
  obtain ⟨vy, hp, hs⟩ := hw
  refine ⟨vy, ⟨hp, h.st.st.trans hs⟩, ?_, h.row.kp hs.kp (fun k hk => by omega) (fun k hk => hfar k hk), h.lt⟩
  rw [hs.kp.block R (by have := h.lt; omega) (fun hk => hfar R hk h.lt)]
  exact h.blk
theorem StR.wr {F : Go.Stop.Interp} {G g : Nat} {m a : Bool} {v1 vx : Value} {w2 wx : World} {R : Nat} {o : Obj} {sl : Value} {l : List TD} {cs : List UInt8} {w : World} (h : StR F G g m a v1 w2 R o sl l cs wx vx) (hk : Kp (fun _ => False) w w2) : Wr F G g m a v1 w cs wx := ⟨vx, h.st.pn, Stp.pre hk h.st.st⟩
theorem cells6 {w : World} {B T : Nat} {x0 x1 x2 x3 x4 x5 : Value} (h : w.heap[B]? = some (.cells #[x0, x1, x2, x3, x4, x5] T)) : w.cell? ⟨B, 0, none⟩ = some x0 ∧ w.cell? ⟨B, 1, none⟩ = some x1 ∧ w.cell? ⟨B, 5, none⟩ = some x5 := by
  simp [World.cell?, h]

theorem rule_at (F : Go.Stop.Interp) (uq : Bool) (G g : Nat) (m a : Bool) (v : Value) (css : List UInt8) (R : Nat) (s : ByteArray) (cs : List Int) (sl : Value) (l : List TD) (w : World) (h : Pn F G w g m a v css) (hRG : R < G) (hR : w.heap[R]? = some (.cells #[.string s, sl, .slice none 0 0] 61))
    (hc : ∀ c ∈ cs, Scal c) (hs : s.data.toList = encs cs) (hr : RowAt w (· < G) sl l) (hok : TsOk uq l) (hT : TokC F uq G l) (hb : css.length + 8 * s.size + costL l + 2000 ≤ 140737488355328) :
    Calls Tryz.prog 51 #[.pointer (some ⟨g, 0, none⟩), .agg #[.iface 59 (.pointer (some ⟨R, 0, none⟩)), .int .i32 0], .int .i32 0, .bool false] w fun e w' => e = .returned (.tuple #[]) ∧ Wr F G g m a v w (css ++ atT m a cs l) w' := by
  have hge := h.pr.ge
  have hss : s.size = (encs cs).length := by rw [← hs]; simp
  have hi1 := identP_len a (decide (l ≠ [])) (iniE 0 cs) cs hc
  have hi2 := identP_len a false (iniE 0 cs) cs hc
  have hro := rowT_len a uq _ l (firstW l) (Nat.le_refl _) hok
  have hll := len_cost l
  have h47 : l.length ≤ 140737488355328 := by omega
  generalize hos : (.cells #[.string s, sl, .slice none 0 0] 61 : Obj) = o at hR
  have S0 : Hid (StR F G g m a v (w.alloc (.cells #[.iface 59 (.pointer (some ⟨R, 0, none⟩)), .int .i32 0] 85)) R o sl l css (w.alloc (.cells #[.iface 59 (.pointer (some ⟨R, 0, none⟩)), .int .i32 0] 85)) v) := by
    have hk0 : Kp (fun _ => False) w (w.alloc (.cells #[.iface 59 (.pointer (some ⟨R, 0, none⟩)), .int .i32 0] 85)) := (Kp.refl _ w).alloc _
    refine Lib.hid ⟨⟨h.kp hk0, Stp.refl _ _ _⟩, ?_, hr.kp hk0 (fun k hk => by omega) (fun _ h => h.elim), hRG⟩
    rw [hk0.block R (by omega) (fun h => h)]
    exact hR
  subst hos
  have hk0 : Hid (Kp (fun _ => False) w (w.alloc (.cells #[.iface 59 (.pointer (some ⟨R, 0, none⟩)), .int .i32 0] 85))) := Lib.hid ((Kp.refl _ w).alloc _)
  have HS := Lib.hid hs
  have HC := Lib.hid hc
  have HOK := Lib.hid hok
  have HT := Lib.hid hT
  have HI1 := Lib.hid hi1
  have HI2 := Lib.hid hi2
  have HRO := Lib.hid hro
  have HB := Lib.hid hb
  have HSS := Lib.hid hss
  clear h hR hr hs hc hok hT hi1 hi2 hro hss hb
  obtain ⟨A, cap, rfl, -⟩ := S0.out.row.len
  have c0 : (w.alloc (.cells #[.iface 59 (.pointer (some ⟨R, 0, none⟩)), .int .i32 0] 85)).cell? ⟨w.heap.size, 0, none⟩ = some (.iface 59 (.pointer (some ⟨R, 0, none⟩))) := by rw [cell?_eq_of (heap_alloc_new w _)]; rfl
  generalize hw1 : w.alloc (.cells #[.iface 59 (.pointer (some ⟨R, 0, none⟩)), .int .i32 0] 85) = w1 at *
  obtain ⟨y3, y5, y6, y7, y9, y15, yf⟩ := S0.out.st.pn.pr.f
  have L0 := S0.out.st.pn.pr.lt
  obtain ⟨r0, r1, r2⟩ := cells3 S0.out.blk
  cases m
  case false => as_aux_lemma =>
    cases l with
    | nil =>
      simp only [List.length_nil] at S0 hll h47 r1 ⊢
      go_enter Tryz.func51, Tryz.ntmps51
      go_upto_region 1 with fail
      go_wp2_with fail
      refine (indent_0 F G g false a v css w1 S0.out.st.pn).mono ?_
      rintro e w9 ⟨rfl, rfl⟩
      have B0 : Hid ((css).length + 1 ≤ 140737488355328) := Lib.hid (by have b0 := HB.out; have b1 := HI1.out; have b2 := HI2.out; have b3 := HRO.out; have b4 := HSS.out; simp only [List.length_append, List.length_cons, List.length_nil, ne_eq, decide_not] at b1 b2 b3 ⊢; first | omega | (simp_all <;> omega))
      go_wp2_with fail
      refine (Print_1 S0.out.st.pn 64 B0.out).mono ?_
      rintro e w9 ⟨rfl, hw9⟩
      clear y3 y5 y6 y7 y9 y15 yf r0 r1 r2
      obtain ⟨v1, S1⟩ := S0.out.go hw9
      replace S1 := Lib.hid S1
      clear hw9
      obtain ⟨y3, y5, y6, y7, y9, y15, yf⟩ := S1.out.st.pn.pr.f
      have L1 := S1.out.st.pn.pr.lt
      obtain ⟨r0, r1, r2⟩ := cells3 S1.out.blk
      have B1 : Hid ((css ++ [64]).length + 8 * s.size + 100 ≤ 140737488355328) := Lib.hid (by have b0 := HB.out; have b1 := HI1.out; have b2 := HI2.out; have b3 := HRO.out; have b4 := HSS.out; simp only [List.length_append, List.length_cons, List.length_nil, ne_eq, decide_not] at b1 b2 b3 ⊢; first | omega | (simp_all <;> omega))
      go_wp2_with fail
      refine (Ident0_n false s cs S1.out.st.pn HC.out HS.out B1.out).mono ?_
      rintro e w9 ⟨rfl, hw9⟩
      clear y3 y5 y6 y7 y9 y15 yf r0 r1 r2
      obtain ⟨v2, S2⟩ := S1.out.go hw9
      replace S2 := Lib.hid S2
      clear hw9
      obtain ⟨y3, y5, y6, y7, y9, y15, yf⟩ := S2.out.st.pn.pr.f
      have L2 := S2.out.st.pn.pr.lt
      obtain ⟨r0, r1, r2⟩ := cells3 S2.out.blk
      have B2 : Hid ((css ++ [64] ++ identP a false (iniE 0 cs) cs).length + costL [] + 1000 ≤ 140737488355328) := Lib.hid (by have b0 := HB.out; have b1 := HI1.out; have b2 := HI2.out; have b3 := HRO.out; have b4 := HSS.out; simp only [List.length_append, List.length_cons, List.length_nil, ne_eq, decide_not] at b1 b2 b3 ⊢; first | omega | (simp_all <;> omega))
      go_wp2_with fail
      refine (HT.out g false a _ _ _ 0 false _ S2.out.st.pn S2.out.row HOK.out (.inl (by simp)) B2.out).mono ?_
      rintro e w9 ⟨rfl, hw9⟩
      clear y3 y5 y6 y7 y9 y15 yf r0 r1 r2
      obtain ⟨v3, S3⟩ := S2.out.go hw9
      replace S3 := Lib.hid S3
      clear hw9
      obtain ⟨y3, y5, y6, y7, y9, y15, yf⟩ := S3.out.st.pn.pr.f
      have L3 := S3.out.st.pn.pr.lt
      obtain ⟨r0, r1, r2⟩ := cells3 S3.out.blk
      have B3 : Hid ((css ++ [64] ++ identP a false (iniE 0 cs) cs ++ rowT a (firstW []) []).length + 1 ≤ 140737488355328) := Lib.hid (by have b0 := HB.out; have b1 := HI1.out; have b2 := HI2.out; have b3 := HRO.out; have b4 := HSS.out; simp only [List.length_append, List.length_cons, List.length_nil, ne_eq, decide_not] at b1 b2 b3 ⊢; first | omega | (simp_all <;> omega))
      go_wp2_with fail
      refine (Print_1 S3.out.st.pn 59 B3.out).mono ?_
      rintro e w9 ⟨rfl, hw9⟩
      clear y3 y5 y6 y7 y9 y15 yf r0 r1 r2
      obtain ⟨v4, S4⟩ := S3.out.go hw9
      replace S4 := Lib.hid S4
      clear hw9
      obtain ⟨y3, y5, y6, y7, y9, y15, yf⟩ := S4.out.st.pn.pr.f
      have L4 := S4.out.st.pn.pr.lt
      obtain ⟨r0, r1, r2⟩ := cells3 S4.out.blk
      have B4 : Hid ((css ++ [64] ++ identP a false (iniE 0 cs) cs ++ rowT a (firstW []) [] ++ [59]).length + 1 ≤ 140737488355328) := Lib.hid (by have b0 := HB.out; have b1 := HI1.out; have b2 := HI2.out; have b3 := HRO.out; have b4 := HSS.out; simp only [List.length_append, List.length_cons, List.length_nil, ne_eq, decide_not] at b1 b2 b3 ⊢; first | omega | (simp_all <;> omega))
      go_wp2_with fail
      refine (Print_1 S4.out.st.pn 10 B4.out).mono ?_
      rintro e w9 ⟨rfl, hw9⟩
      clear y3 y5 y6 y7 y9 y15 yf r0 r1 r2
      obtain ⟨v5, S5⟩ := S4.out.go hw9
      replace S5 := Lib.hid S5
      clear hw9
      obtain ⟨y3, y5, y6, y7, y9, y15, yf⟩ := S5.out.st.pn.pr.f
      have L5 := S5.out.st.pn.pr.lt
      obtain ⟨r0, r1, r2⟩ := cells3 S5.out.blk
      go_wp2
      go_end0
      refine ⟨rfl, ?_⟩
      have hz := S5.out.wr hk0.out
      simpa [atT, rowT, firstW] using hz
    | cons t0 t1 =>
      have hl0 : 0 < (t0 :: t1).length := by simp
      generalize hl : t0 :: t1 = l at *
      replace hl := Lib.hid hl
      go_enter Tryz.func51, Tryz.ntmps51
      go_upto_region 1 with fail
      go_wp2_with fail
      refine (indent_0 F G g false a v css w1 S0.out.st.pn).mono ?_
      rintro e w9 ⟨rfl, rfl⟩
      have B0 : Hid ((css).length + 1 ≤ 140737488355328) := Lib.hid (by have b0 := HB.out; have b1 := HI1.out; have b2 := HI2.out; have b3 := HRO.out; have b4 := HSS.out; simp only [List.length_append, List.length_cons, List.length_nil, ne_eq, decide_not] at b1 b2 b3 ⊢; first | omega | (simp_all <;> omega))
      go_wp2_with fail
      refine (Print_1 S0.out.st.pn 64 B0.out).mono ?_
      rintro e w9 ⟨rfl, hw9⟩
      clear y3 y5 y6 y7 y9 y15 yf r0 r1 r2
      obtain ⟨v1, S1⟩ := S0.out.go hw9
      replace S1 := Lib.hid S1
      clear hw9
      obtain ⟨y3, y5, y6, y7, y9, y15, yf⟩ := S1.out.st.pn.pr.f
      have L1 := S1.out.st.pn.pr.lt
      obtain ⟨r0, r1, r2⟩ := cells3 S1.out.blk
      have B1 : Hid ((css ++ [64]).length + 8 * s.size + 100 ≤ 140737488355328) := Lib.hid (by have b0 := HB.out; have b1 := HI1.out; have b2 := HI2.out; have b3 := HRO.out; have b4 := HSS.out; simp only [List.length_append, List.length_cons, List.length_nil, ne_eq, decide_not] at b1 b2 b3 ⊢; first | omega | (simp_all <;> omega))
      go_wp2_with fail
      refine (Ident0_n true s cs S1.out.st.pn HC.out HS.out B1.out).mono ?_
      rintro e w9 ⟨rfl, hw9⟩
      clear y3 y5 y6 y7 y9 y15 yf r0 r1 r2
      obtain ⟨v2, S2⟩ := S1.out.go hw9
      replace S2 := Lib.hid S2
      clear hw9
      obtain ⟨y3, y5, y6, y7, y9, y15, yf⟩ := S2.out.st.pn.pr.f
      have L2 := S2.out.st.pn.pr.lt
      obtain ⟨r0, r1, r2⟩ := cells3 S2.out.blk
      have B2 : Hid ((css ++ [64] ++ identP a true (iniE 0 cs) cs).length + 1 ≤ 140737488355328) := Lib.hid (by have b0 := HB.out; have b1 := HI1.out; have b2 := HI2.out; have b3 := HRO.out; have b4 := HSS.out; simp only [List.length_append, List.length_cons, List.length_nil, ne_eq, decide_not] at b1 b2 b3 ⊢; first | omega | (simp_all <;> omega))
      go_wp2_with fail
      refine (Print_1 S2.out.st.pn 32 B2.out).mono ?_
      rintro e w9 ⟨rfl, hw9⟩
      clear y3 y5 y6 y7 y9 y15 yf r0 r1 r2
      obtain ⟨v3, S3⟩ := S2.out.go hw9
      replace S3 := Lib.hid S3
      clear hw9
      obtain ⟨y3, y5, y6, y7, y9, y15, yf⟩ := S3.out.st.pn.pr.f
      have L3 := S3.out.st.pn.pr.lt
      obtain ⟨r0, r1, r2⟩ := cells3 S3.out.blk
      have B3 : Hid ((css ++ [64] ++ identP a true (iniE 0 cs) cs ++ [32]).length + costL l + 1000 ≤ 140737488355328) := Lib.hid (by have b0 := HB.out; have b1 := HI1.out; have b2 := HI2.out; have b3 := HRO.out; have b4 := HSS.out; simp only [List.length_append, List.length_cons, List.length_nil, ne_eq, decide_not] at b1 b2 b3 ⊢; first | omega | (simp_all <;> omega))
      go_wp2_with fail
      refine (HT.out g false a _ _ _ 0 false _ S3.out.st.pn S3.out.row HOK.out (.inl (by simp)) B3.out).mono ?_
      rintro e w9 ⟨rfl, hw9⟩
      clear y3 y5 y6 y7 y9 y15 yf r0 r1 r2
      obtain ⟨v4, S4⟩ := S3.out.go hw9
      replace S4 := Lib.hid S4
      clear hw9
      obtain ⟨y3, y5, y6, y7, y9, y15, yf⟩ := S4.out.st.pn.pr.f
      have L4 := S4.out.st.pn.pr.lt
      obtain ⟨r0, r1, r2⟩ := cells3 S4.out.blk
      have B4 : Hid ((css ++ [64] ++ identP a true (iniE 0 cs) cs ++ [32] ++ rowT a (firstW l) l).length + 1 ≤ 140737488355328) := Lib.hid (by have b0 := HB.out; have b1 := HI1.out; have b2 := HI2.out; have b3 := HRO.out; have b4 := HSS.out; simp only [List.length_append, List.length_cons, List.length_nil, ne_eq, decide_not] at b1 b2 b3 ⊢; first | omega | (simp_all <;> omega))
      go_wp2_with fail
      refine (Print_1 S4.out.st.pn 59 B4.out).mono ?_
      rintro e w9 ⟨rfl, hw9⟩
      clear y3 y5 y6 y7 y9 y15 yf r0 r1 r2
      obtain ⟨v5, S5⟩ := S4.out.go hw9
      replace S5 := Lib.hid S5
      clear hw9
      obtain ⟨y3, y5, y6, y7, y9, y15, yf⟩ := S5.out.st.pn.pr.f
      have L5 := S5.out.st.pn.pr.lt
      obtain ⟨r0, r1, r2⟩ := cells3 S5.out.blk
      have B5 : Hid ((css ++ [64] ++ identP a true (iniE 0 cs) cs ++ [32] ++ rowT a (firstW l) l ++ [59]).length + 1 ≤ 140737488355328) := Lib.hid (by have b0 := HB.out; have b1 := HI1.out; have b2 := HI2.out; have b3 := HRO.out; have b4 := HSS.out; simp only [List.length_append, List.length_cons, List.length_nil, ne_eq, decide_not] at b1 b2 b3 ⊢; first | omega | (simp_all <;> omega))
      go_wp2_with fail
      refine (Print_1 S5.out.st.pn 10 B5.out).mono ?_
      rintro e w9 ⟨rfl, hw9⟩
      clear y3 y5 y6 y7 y9 y15 yf r0 r1 r2
      obtain ⟨v6, S6⟩ := S5.out.go hw9
      replace S6 := Lib.hid S6
      clear hw9
      obtain ⟨y3, y5, y6, y7, y9, y15, yf⟩ := S6.out.st.pn.pr.f
      have L6 := S6.out.st.pn.pr.lt
      obtain ⟨r0, r1, r2⟩ := cells3 S6.out.blk
      go_wp2
      go_end0
      refine ⟨rfl, ?_⟩
      have hz := S6.out.wr hk0.out
      simpa [atT, ← hl.out] using hz
  case true => as_aux_lemma =>
    cases l with
    | nil =>
      simp only [List.length_nil] at S0 hll h47 r1 ⊢
      go_enter Tryz.func51, Tryz.ntmps51
      go_upto_region 1 with fail
      have B0 : Hid ((css).length + 1 ≤ 140737488355328) := Lib.hid (by have b0 := HB.out; have b1 := HI1.out; have b2 := HI2.out; have b3 := HRO.out; have b4 := HSS.out; simp only [List.length_append, List.length_cons, List.length_nil, ne_eq, decide_not] at b1 b2 b3 ⊢; first | omega | (simp_all <;> omega))
      go_wp2_with fail
      refine (Print_1 S0.out.st.pn 64 B0.out).mono ?_
      rintro e w9 ⟨rfl, hw9⟩
      clear y3 y5 y6 y7 y9 y15 yf r0 r1 r2
      obtain ⟨v1, S1⟩ := S0.out.go hw9
      replace S1 := Lib.hid S1
      clear hw9
      obtain ⟨y3, y5, y6, y7, y9, y15, yf⟩ := S1.out.st.pn.pr.f
      have L1 := S1.out.st.pn.pr.lt
      obtain ⟨r0, r1, r2⟩ := cells3 S1.out.blk
      have B1 : Hid ((css ++ [64]).length + 8 * s.size + 100 ≤ 140737488355328) := Lib.hid (by have b0 := HB.out; have b1 := HI1.out; have b2 := HI2.out; have b3 := HRO.out; have b4 := HSS.out; simp only [List.length_append, List.length_cons, List.length_nil, ne_eq, decide_not] at b1 b2 b3 ⊢; first | omega | (simp_all <;> omega))
      go_wp2_with fail
      refine (Ident0_n false s cs S1.out.st.pn HC.out HS.out B1.out).mono ?_
      rintro e w9 ⟨rfl, hw9⟩
      clear y3 y5 y6 y7 y9 y15 yf r0 r1 r2
      obtain ⟨v2, S2⟩ := S1.out.go hw9
      replace S2 := Lib.hid S2
      clear hw9
      obtain ⟨y3, y5, y6, y7, y9, y15, yf⟩ := S2.out.st.pn.pr.f
      have L2 := S2.out.st.pn.pr.lt
      obtain ⟨r0, r1, r2⟩ := cells3 S2.out.blk
      have B2 : Hid ((css ++ [64] ++ identP a false (iniE 0 cs) cs).length + costL [] + 1000 ≤ 140737488355328) := Lib.hid (by have b0 := HB.out; have b1 := HI1.out; have b2 := HI2.out; have b3 := HRO.out; have b4 := HSS.out; simp only [List.length_append, List.length_cons, List.length_nil, ne_eq, decide_not] at b1 b2 b3 ⊢; first | omega | (simp_all <;> omega))
      go_wp2_with fail
      refine (HT.out g true a _ _ _ 0 false _ S2.out.st.pn S2.out.row HOK.out (.inl (by simp)) B2.out).mono ?_
      rintro e w9 ⟨rfl, hw9⟩
      clear y3 y5 y6 y7 y9 y15 yf r0 r1 r2
      obtain ⟨v3, S3⟩ := S2.out.go hw9
      replace S3 := Lib.hid S3
      clear hw9
      obtain ⟨y3, y5, y6, y7, y9, y15, yf⟩ := S3.out.st.pn.pr.f
      have L3 := S3.out.st.pn.pr.lt
      obtain ⟨r0, r1, r2⟩ := cells3 S3.out.blk
      have B3 : Hid ((css ++ [64] ++ identP a false (iniE 0 cs) cs ++ rowT a (firstW []) []).length + 1 ≤ 140737488355328) := Lib.hid (by have b0 := HB.out; have b1 := HI1.out; have b2 := HI2.out; have b3 := HRO.out; have b4 := HSS.out; simp only [List.length_append, List.length_cons, List.length_nil, ne_eq, decide_not] at b1 b2 b3 ⊢; first | omega | (simp_all <;> omega))
      go_wp2_with fail
      refine (Print_1 S3.out.st.pn 59 B3.out).mono ?_
      rintro e w9 ⟨rfl, hw9⟩
      clear y3 y5 y6 y7 y9 y15 yf r0 r1 r2
      obtain ⟨v4, S4⟩ := S3.out.go hw9
      replace S4 := Lib.hid S4
      clear hw9
      obtain ⟨y3, y5, y6, y7, y9, y15, yf⟩ := S4.out.st.pn.pr.f
      have L4 := S4.out.st.pn.pr.lt
      obtain ⟨r0, r1, r2⟩ := cells3 S4.out.blk
      go_wp2
      go_end0
      refine ⟨rfl, ?_⟩
      have hz := S4.out.wr hk0.out
      simpa [atT, rowT, firstW] using hz
    | cons t0 t1 =>
      have hl0 : 0 < (t0 :: t1).length := by simp
      generalize hl : t0 :: t1 = l at *
      replace hl := Lib.hid hl
      go_enter Tryz.func51, Tryz.ntmps51
      go_upto_region 1 with fail
      have B0 : Hid ((css).length + 1 ≤ 140737488355328) := Lib.hid (by have b0 := HB.out; have b1 := HI1.out; have b2 := HI2.out; have b3 := HRO.out; have b4 := HSS.out; simp only [List.length_append, List.length_cons, List.length_nil, ne_eq, decide_not] at b1 b2 b3 ⊢; first | omega | (simp_all <;> omega))
      go_wp2_with fail
      refine (Print_1 S0.out.st.pn 64 B0.out).mono ?_
      rintro e w9 ⟨rfl, hw9⟩
      clear y3 y5 y6 y7 y9 y15 yf r0 r1 r2
      obtain ⟨v1, S1⟩ := S0.out.go hw9
      replace S1 := Lib.hid S1
      clear hw9
      obtain ⟨y3, y5, y6, y7, y9, y15, yf⟩ := S1.out.st.pn.pr.f
      have L1 := S1.out.st.pn.pr.lt
      obtain ⟨r0, r1, r2⟩ := cells3 S1.out.blk
      have B1 : Hid ((css ++ [64]).length + 8 * s.size + 100 ≤ 140737488355328) := Lib.hid (by have b0 := HB.out; have b1 := HI1.out; have b2 := HI2.out; have b3 := HRO.out; have b4 := HSS.out; simp only [List.length_append, List.length_cons, List.length_nil, ne_eq, decide_not] at b1 b2 b3 ⊢; first | omega | (simp_all <;> omega))
      go_wp2_with fail
      refine (Ident0_n true s cs S1.out.st.pn HC.out HS.out B1.out).mono ?_
      rintro e w9 ⟨rfl, hw9⟩
      clear y3 y5 y6 y7 y9 y15 yf r0 r1 r2
      obtain ⟨v2, S2⟩ := S1.out.go hw9
      replace S2 := Lib.hid S2
      clear hw9
      obtain ⟨y3, y5, y6, y7, y9, y15, yf⟩ := S2.out.st.pn.pr.f
      have L2 := S2.out.st.pn.pr.lt
      obtain ⟨r0, r1, r2⟩ := cells3 S2.out.blk
      have B2 : Hid ((css ++ [64] ++ identP a true (iniE 0 cs) cs).length + 1 ≤ 140737488355328) := Lib.hid (by have b0 := HB.out; have b1 := HI1.out; have b2 := HI2.out; have b3 := HRO.out; have b4 := HSS.out; simp only [List.length_append, List.length_cons, List.length_nil, ne_eq, decide_not] at b1 b2 b3 ⊢; first | omega | (simp_all <;> omega))
      go_wp2_with fail
      refine (Print_1 S2.out.st.pn 32 B2.out).mono ?_
      rintro e w9 ⟨rfl, hw9⟩
      clear y3 y5 y6 y7 y9 y15 yf r0 r1 r2
      obtain ⟨v3, S3⟩ := S2.out.go hw9
      replace S3 := Lib.hid S3
      clear hw9
      obtain ⟨y3, y5, y6, y7, y9, y15, yf⟩ := S3.out.st.pn.pr.f
      have L3 := S3.out.st.pn.pr.lt
      obtain ⟨r0, r1, r2⟩ := cells3 S3.out.blk
      have B3 : Hid ((css ++ [64] ++ identP a true (iniE 0 cs) cs ++ [32]).length + costL l + 1000 ≤ 140737488355328) := Lib.hid (by have b0 := HB.out; have b1 := HI1.out; have b2 := HI2.out; have b3 := HRO.out; have b4 := HSS.out; simp only [List.length_append, List.length_cons, List.length_nil, ne_eq, decide_not] at b1 b2 b3 ⊢; first | omega | (simp_all <;> omega))
      go_wp2_with fail
      refine (HT.out g true a _ _ _ 0 false _ S3.out.st.pn S3.out.row HOK.out (.inl (by simp)) B3.out).mono ?_
      rintro e w9 ⟨rfl, hw9⟩
      clear y3 y5 y6 y7 y9 y15 yf r0 r1 r2
      obtain ⟨v4, S4⟩ := S3.out.go hw9
      replace S4 := Lib.hid S4
      clear hw9
      obtain ⟨y3, y5, y6, y7, y9, y15, yf⟩ := S4.out.st.pn.pr.f
      have L4 := S4.out.st.pn.pr.lt
      obtain ⟨r0, r1, r2⟩ := cells3 S4.out.blk
      have B4 : Hid ((css ++ [64] ++ identP a true (iniE 0 cs) cs ++ [32] ++ rowT a (firstW l) l).length + 1 ≤ 140737488355328) := Lib.hid (by have b0 := HB.out; have b1 := HI1.out; have b2 := HI2.out; have b3 := HRO.out; have b4 := HSS.out; simp only [List.length_append, List.length_cons, List.length_nil, ne_eq, decide_not] at b1 b2 b3 ⊢; first | omega | (simp_all <;> omega))
      go_wp2_with fail
      refine (Print_1 S4.out.st.pn 59 B4.out).mono ?_
      rintro e w9 ⟨rfl, hw9⟩
      clear y3 y5 y6 y7 y9 y15 yf r0 r1 r2
      obtain ⟨v5, S5⟩ := S4.out.go hw9
      replace S5 := Lib.hid S5
      clear hw9
      obtain ⟨y3, y5, y6, y7, y9, y15, yf⟩ := S5.out.st.pn.pr.f
      have L5 := S5.out.st.pn.pr.lt
      obtain ⟨r0, r1, r2⟩ := cells3 S5.out.blk
      go_wp2
      go_end0
      refine ⟨rfl, ?_⟩
      have hz := S5.out.wr hk0.out
      simpa [atT, ← hl.out] using hz
end Go.Proofs.YtkaejhdncohgpaaGreatFmt
