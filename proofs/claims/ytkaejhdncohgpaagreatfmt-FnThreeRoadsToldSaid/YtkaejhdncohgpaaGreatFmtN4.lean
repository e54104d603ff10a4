/- Walk: printRule at a declaration that ends a block, printRuleBlock at one declaration, printRule at a qualified rule: minified; Walk: impl.Qualified, minified; Walk: the law of the three roads. -/
import Derived.Test.YtkaejhdncohgpaaGreatFmtCK
import Derived.Test.YtkaejhdncohgpaaGreatFmtCO
import Derived.Test.YtkaejhdncohgpaaGreatFmtN3
import Derived.Test.YtkaejhdncohgpaaGreatFmtDB
/- Walk: printRule at a declaration that ends a block, printRuleBlock at one declaration, printRule at a qualified rule: minified. Condition: lengths that a machine can have. -/
namespace Go.Proofs.YtkaejhdncohgpaaGreatFmt
set_option linter.all false
open Go.RowKit Go.Lib
set_option maxRecDepth 100000
set_option maxHeartbeats 20000000
set_option linter.unusedSimpArgs false

/-- What a declaration that ends a block prints. -/
def declQ (a : Bool) (cs : List Int) (l : List TD) : List UInt8 := identP a false (iniE 0 cs) cs ++ (58 :: rowT a (firstW l) l)
/-- What a qualified rule prints. -/
def qualT (a : Bool) (lp : List TD) (cs : List Int) (l : List TD) : List UInt8 := rowT a (firstW lp) lp ++ (123 :: (declQ a cs l ++ [125]))
theorem rule_declQ (F : Go.Stop.Interp) (uq : Bool) (G g : Nat) (a : Bool) (v : Value) (css : List UInt8) (R : Nat) (s : ByteArray) (cs : List Int) (sl : Value) (l : List TD) (x2 x3 x4 : Value) (w : World) (h : Pn F G w g true a v css) (hRG : R < G) (hR : w.heap[R]? = some (.cells #[.string s, sl, x2, x3, x4, .bool false] 73))
    (hc : ∀ c ∈ cs, Scal c) (hs : s.data.toList = encs cs) (hr : RowAt w (· < G) sl l) (hok : TsOk uq l) (hT : TokC F uq G l) (hb : css.length + 8 * s.size + costL l + 2000 ≤ 140737488355328) :
    Calls Tryz.prog 51 #[.pointer (some ⟨g, 0, none⟩), .agg #[.iface 65 (.pointer (some ⟨R, 0, none⟩)), .int .i32 0], .int .i32 1, .bool true] w fun e w' => e = .returned (.tuple #[]) ∧ Wr F G g true a v w (css ++ declQ a cs l) w' := by
  have hge := h.pr.ge
  have hss : s.size = (encs cs).length := by rw [← hs]; simp
  have hi1 := identP_len a (decide (l ≠ [])) (iniE 0 cs) cs hc
  have hi2 := identP_len a false (iniE 0 cs) cs hc
  have hro := rowT_len a uq _ l (firstW l) (Nat.le_refl _) hok
  have hll := len_cost l
  have h47 : l.length ≤ 140737488355328 := by omega
  generalize hos : (.cells #[.string s, sl, x2, x3, x4, .bool false] 73 : Obj) = o at hR
  have S0 : Hid (StR F G g true a v (w.alloc (.cells #[.iface 65 (.pointer (some ⟨R, 0, none⟩)), .int .i32 0] 85)) R o sl l css (w.alloc (.cells #[.iface 65 (.pointer (some ⟨R, 0, none⟩)), .int .i32 0] 85)) v) := by
    have hk0 : Kp (fun _ => False) w (w.alloc (.cells #[.iface 65 (.pointer (some ⟨R, 0, none⟩)), .int .i32 0] 85)) := (Kp.refl _ w).alloc _
    refine Lib.hid ⟨⟨h.kp hk0, Stp.refl _ _ _⟩, ?_, hr.kp hk0 (fun k hk => by omega) (fun _ h => h.elim), hRG⟩
    rw [hk0.block R (by omega) (fun h => h)]
    exact hR
  subst hos
  have hk0 : Hid (Kp (fun _ => False) w (w.alloc (.cells #[.iface 65 (.pointer (some ⟨R, 0, none⟩)), .int .i32 0] 85))) := Lib.hid ((Kp.refl _ w).alloc _)
  have HS := Lib.hid hs
  have HC := Lib.hid hc
  have HOK := Lib.hid hok
  have HT := Lib.hid hT
  have HI1 := Lib.hid hi1
  have HI2 := Lib.hid hi2
  have HRO := Lib.hid hro
  have HB := Lib.hid hb
  have HSS := Lib.hid hss
  clear h hR hr hs hc hok hT hi1 hi2 hro hss hb
  obtain ⟨A, cap, rfl, -⟩ := S0.out.row.len
  have c0 : (w.alloc (.cells #[.iface 65 (.pointer (some ⟨R, 0, none⟩)), .int .i32 0] 85)).cell? ⟨w.heap.size, 0, none⟩ = some (.iface 65 (.pointer (some ⟨R, 0, none⟩))) := by rw [cell?_eq_of (heap_alloc_new w _)]; rfl
  generalize hw1 : w.alloc (.cells #[.iface 65 (.pointer (some ⟨R, 0, none⟩)), .int .i32 0] 85) = w1 at *
  obtain ⟨y3, y5, y6, y7, y9, y15, yf⟩ := S0.out.st.pn.pr.f
  have L0 := S0.out.st.pn.pr.lt
  obtain ⟨r0, r1, r5⟩ := cells6 S0.out.blk
  obtain ⟨lw, hlw⟩ : ∃ x, lastW (firstW l) l = x := ⟨_, rfl⟩
  have HLW := Lib.hid hlw
  clear hlw
  go_enter Tryz.func51, Tryz.ntmps51
  go_upto_region 1 with fail
  have B0 : Hid ((css).length + 8 * s.size + 100 ≤ 140737488355328) := Lib.hid (by have b0 := HB.out; have b1 := HI1.out; have b2 := HI2.out; have b3 := HRO.out; have b4 := HSS.out; simp only [List.length_append, List.length_cons, List.length_nil, ne_eq, decide_not] at b1 b2 b3 ⊢; first | omega | (simp_all <;> omega))
  go_wp2_with fail
  refine (Ident0_n false s cs S0.out.st.pn HC.out HS.out B0.out).mono ?_
  rintro e w9 ⟨rfl, hw9⟩
  clear y3 y5 y6 y7 y9 y15 yf r0 r1 r5
  obtain ⟨v1, S1⟩ := S0.out.go hw9
  replace S1 := Lib.hid S1
  clear hw9
  obtain ⟨y3, y5, y6, y7, y9, y15, yf⟩ := S1.out.st.pn.pr.f
  have L1 := S1.out.st.pn.pr.lt
  obtain ⟨r0, r1, r5⟩ := cells6 S1.out.blk
  have B1 : Hid ((css ++ identP a false (iniE 0 cs) cs).length + 1 ≤ 140737488355328) := Lib.hid (by have b0 := HB.out; have b1 := HI1.out; have b2 := HI2.out; have b3 := HRO.out; have b4 := HSS.out; simp only [List.length_append, List.length_cons, List.length_nil, ne_eq, decide_not] at b1 b2 b3 ⊢; first | omega | (simp_all <;> omega))
  go_wp2_with fail
  refine (Print_1 S1.out.st.pn 58 B1.out).mono ?_
  rintro e w9 ⟨rfl, hw9⟩
  clear y3 y5 y6 y7 y9 y15 yf r0 r1 r5
  obtain ⟨v2, S2⟩ := S1.out.go hw9
  replace S2 := Lib.hid S2
  clear hw9
  obtain ⟨y3, y5, y6, y7, y9, y15, yf⟩ := S2.out.st.pn.pr.f
  have L2 := S2.out.st.pn.pr.lt
  obtain ⟨r0, r1, r5⟩ := cells6 S2.out.blk
  have B2 : Hid ((css ++ identP a false (iniE 0 cs) cs ++ [58]).length + costL l + 1000 ≤ 140737488355328) := Lib.hid (by have b0 := HB.out; have b1 := HI1.out; have b2 := HI2.out; have b3 := HRO.out; have b4 := HSS.out; simp only [List.length_append, List.length_cons, List.length_nil, ne_eq, decide_not] at b1 b2 b3 ⊢; first | omega | (simp_all <;> omega))
  go_wp2_with fail
  refine (HT.out g true a _ _ _ 1 true _ S2.out.st.pn S2.out.row HOK.out (.inl rfl) B2.out).mono ?_
  rw [HLW.out]; rintro e w9 ⟨rfl, hw9⟩
  clear y3 y5 y6 y7 y9 y15 yf r0 r1 r5
  obtain ⟨v3, S3⟩ := S2.out.go hw9
  replace S3 := Lib.hid S3
  clear hw9
  obtain ⟨y3, y5, y6, y7, y9, y15, yf⟩ := S3.out.st.pn.pr.f
  have L3 := S3.out.st.pn.pr.lt
  obtain ⟨r0, r1, r5⟩ := cells6 S3.out.blk
  go_wp2
  go_end0
  refine ⟨rfl, ?_⟩
  have hz := S3.out.wr hk0.out
  have e1 := HLW.out
  simpa [declQ, e1] using hz
/-- What lies below a printer. -/
structure StL (F : Go.Stop.Interp) (G g : Nat) (m a : Bool) (v1 : Value) (w2 : World) (cs : List UInt8) (wx : World) (vx : Value) : Prop where
  st : StA F G g m a v1 w2 cs wx vx
  lo : Kp (fun k => G ≤ k) w2 wx
theorem StL.go {F : Go.Stop.Interp} {G g : Nat} {m a : Bool} {v1 vx : Value} {w2 wx wy : World} {cs cs' : List UInt8} (h : StL F G g m a v1 w2 cs wx vx) (hw : Wr F G g m a vx wx cs' wy) : ∃ vy, StL F G g m a v1 w2 cs' wy vy := by
  have hfar := far_of h.st.pn
  obtain ⟨vy, hp, hs⟩ := hw
  exact ⟨vy, ⟨hp, h.st.st.trans hs⟩, h.lo.trans (hs.kp.mono fun k _ hk => Nat.le_of_not_lt (hfar k hk))⟩
theorem StL.wr {F : Go.Stop.Interp} {G g : Nat} {m a : Bool} {v1 vx : Value} {w2 wx : World} {cs : List UInt8} {w : World} (h : StL F G g m a v1 w2 cs wx vx) (hk : Kp (fun _ => False) w w2) : Wr F G g m a v1 w cs wx := ⟨vx, h.st.pn, Stp.pre hk h.st.st⟩
theorem StL.kp {F : Go.Stop.Interp} {G g : Nat} {m a : Bool} {v1 vx : Value} {w2 wx wy : World} {cs : List UInt8} (h : StL F G g m a v1 w2 cs wx vx) (hk : Kp (fun _ => False) wx wy) : StL F G g m a v1 w2 cs wy vx := ⟨h.st.kp hk, h.lo.trans (hk.mono fun _ _ f => f.elim)⟩
/-- One declaration in a block's rules, below a printer. -/
structure DeclIn (G : Nat) (w : World) (B R : Nat) (s : ByteArray) (cs : List Int) (sl : Value) (l : List TD) : Prop where
  b : w.heap[B]? = some (.cells #[.iface 65 (.pointer (some ⟨R, 0, none⟩)), .int .i32 0] 85)
  r : w.heap[R]? = some (.cells #[.string s, sl, .int .i32 0, .int .i32 0, .int .u16 0, .bool false] 73)
  bG : B < G
  rG : R < G
  row : RowAt w (· < G) sl l
  tx : s.data.toList = encs cs
  sc : ∀ c ∈ cs, Scal c
theorem DeclIn.kp {G : Nat} {w w' : World} {B R : Nat} {s : ByteArray} {cs : List Int} {sl : Value} {l : List TD} (h : DeclIn G w B R s cs sl l) (hG : G ≤ w.heap.size) (hk : Kp (fun k => G ≤ k) w w') : DeclIn G w' B R s cs sl l :=
  ⟨(hk.block B (Array.getElem?_eq_some_iff.1 h.b).1 (fun e => by have := h.bG; omega)).trans h.b, (hk.block R (Array.getElem?_eq_some_iff.1 h.r).1 (fun e => by have := h.rG; omega)).trans h.r, h.bG, h.rG,
    h.row.kp hk (fun k hk => Nat.lt_of_lt_of_le hk hG) (fun k h1 h2 => by omega), h.tx, h.sc⟩
theorem block_decl (F : Go.Stop.Interp) (uq : Bool) (G g : Nat) (a : Bool) (v : Value) (css : List UInt8) (B R : Nat) (s : ByteArray) (cs : List Int) (sl : Value) (l : List TD) (w : World) (h : Pn F G w g true a v css) (hD : DeclIn G w B R s cs sl l)
    (hok : TsOk uq l) (hT : TokC F uq G l) (hb : css.length + 8 * s.size + costL l + 2100 ≤ 140737488355328) :
    Calls Tryz.prog 82 #[.pointer (some ⟨g, 0, none⟩), .slice (some ⟨B, 0, none⟩) 1 1, .int .i32 0, .agg #[.int .i32 0]] w fun e w' => e = .returned (.tuple #[]) ∧ Wr F G g true a v w (css ++ (123 :: (declQ a cs l ++ [125]))) w' := by
  have hge := h.pr.ge
  have hss : s.size = (encs cs).length := by rw [← hD.tx]; simp
  have hi := identP_len a false (iniE 0 cs) cs hD.sc
  have hro := rowT_len a uq _ l (firstW l) (Nat.le_refl _) hok
  have hdl : (declQ a cs l).length ≤ 8 * s.size + costL l + 2 := by
    unfold declQ
    simp only [List.length_append, List.length_cons]; omega
  have hk0 : Kp (fun _ => False) w (w.alloc (.cells #[.int .i32 0] 67)) := (Kp.refl _ w).alloc _
  have S0 : Hid (StL F G g true a v (w.alloc (.cells #[.int .i32 0] 67)) css (w.alloc (.cells #[.int .i32 0] 67)) v) := Lib.hid ⟨⟨h.kp hk0, Stp.refl _ _ _⟩, Kp.refl _ _⟩
  have D0 : Hid (DeclIn G (w.alloc (.cells #[.int .i32 0] 67)) B R s cs sl l) := Lib.hid (hD.kp hge (hk0.mono fun _ _ f => f.elim))
  have hbx : (w.alloc (.cells #[.int .i32 0] 67)).cell? ⟨w.heap.size, 0, none⟩ = some (.int .i32 0) := by rw [cell?_eq_of (heap_alloc_new w _)]; rfl
  have HK0 := Lib.hid hk0
  have HOK := Lib.hid hok
  have HT := Lib.hid hT
  have HB := Lib.hid hb
  have HDL := Lib.hid hdl
  clear h hD hok hT hb hdl hi hro hss hk0
  generalize hw1 : w.alloc (.cells #[.int .i32 0] 67) = w1 at *
  obtain ⟨y3, y5, y6, y7, y9, y15, yf⟩ := S0.out.st.pn.pr.f
  go_enter Tryz.func82, Tryz.ntmps82
  go_wp2_with fail
  refine (Print_1 S0.out.st.pn 123 (by have := HB.out; omega)).mono ?_
  rintro e w9 ⟨rfl, hw9⟩
  obtain ⟨v1, S1⟩ := S0.out.go hw9
  replace S1 := Lib.hid S1
  clear hw9 y3 y5 y6 y7 y9 y15 yf hbx
  have hG1 : G ≤ w1.heap.size := S0.out.st.pn.pr.ge
  have D1 := Lib.hid (D0.out.kp hG1 S1.out.lo)
  have hkA : Kp (fun _ => False) w9 (w9.alloc (.cells #[.iface 65 (.pointer (some ⟨R, 0, none⟩)), .int .i32 0] 85)) := (Kp.refl _ w9).alloc _
  have S2 := Lib.hid (S1.out.kp hkA)
  have D2 := Lib.hid (D1.out.kp S1.out.st.pn.pr.ge (hkA.mono fun _ _ f => f.elim))
  have r0 : w9.cell? ⟨B, 0, none⟩ = some (.iface 65 (.pointer (some ⟨R, 0, none⟩))) := by simp [World.cell?, D1.out.b]
  have r1 : w9.cell? ⟨B, 1, none⟩ = some (.int .i32 0) := by simp [World.cell?, D1.out.b]
  obtain ⟨y3, y5, y6, y7, y9, y15, yf⟩ := S2.out.st.pn.pr.f
  have C2 := Lib.hid (rule_declQ F uq G g a v1 (css ++ [123]) R s cs sl l _ _ _ _ S2.out.st.pn D2.out.rG D2.out.r D2.out.sc D2.out.tx D2.out.row HOK.out HT.out (by have := HB.out; simp; omega))
  clear hkA
  go_wp2
  refine wp_loop_rounds 2 ?_
  rw [rounds_succ]
  go_wp2_with (go_at_call 51; refine C2.out.mono ?_)
  rintro e w10 ⟨rfl, hw10⟩
  obtain ⟨v3, S3⟩ := S2.out.go hw10
  replace S3 := Lib.hid S3
  clear hw10 y3 y5 y6 y7 y9 y15 yf r0 r1
  obtain ⟨y3, y5, y6, y7, y9, y15, yf⟩ := S3.out.st.pn.pr.f
  go_wp2
  rw [rounds_succ]
  go_wp2_with (go_at_call 73; refine (Print_1 S3.out.st.pn 125 (by have := HB.out; have := HDL.out; simp; omega)).mono ?_)
  rintro e w11 ⟨rfl, hw11⟩
  obtain ⟨v4, S4⟩ := S3.out.go hw11
  replace S4 := Lib.hid S4
  clear hw11 y3 y5 y6 y7 y9 y15 yf
  go_wp2
  go_end0
  refine ⟨rfl, ?_⟩
  have hz := S4.out.wr HK0.out
  simpa using hz

@[go_sem] theorem as87_172 (v : Value) (w : World) : (Instr.typeAssert (.iface 87 v) 83 172 true).run Tryz.prog w = .ok (.tuple #[.pointer none, .bool false]) w := by kernel_rfl
@[go_sem] theorem as87_183 (v : Value) (w : World) : (Instr.typeAssert (.iface 87 v) 83 183 true).run Tryz.prog w = .ok (.tuple #[.pointer none, .bool false]) w := by kernel_rfl
@[go_sem] theorem as87_189 (v : Value) (w : World) : (Instr.typeAssert (.iface 87 v) 83 189 true).run Tryz.prog w = .ok (.tuple #[.pointer none, .bool false]) w := by kernel_rfl
@[go_sem] theorem as87_220 (v : Value) (w : World) : (Instr.typeAssert (.iface 87 v) 83 220 true).run Tryz.prog w = .ok (.tuple #[.pointer none, .bool false]) w := by kernel_rfl
@[go_sem] theorem as87_235 (v : Value) (w : World) : (Instr.typeAssert (.iface 87 v) 83 235 true).run Tryz.prog w = .ok (.tuple #[.pointer none, .bool false]) w := by kernel_rfl
@[go_sem] theorem as87_59 (v : Value) (w : World) : (Instr.typeAssert (.iface 87 v) 83 59 true).run Tryz.prog w = .ok (.tuple #[.pointer none, .bool false]) w := by kernel_rfl
@[go_sem] theorem as87_179 (v : Value) (w : World) : (Instr.typeAssert (.iface 87 v) 83 179 true).run Tryz.prog w = .ok (.tuple #[.pointer none, .bool false]) w := by kernel_rfl
@[go_sem] theorem as87_87 (v : Value) (w : World) : (Instr.typeAssert (.iface 87 v) 83 87 true).run Tryz.prog w = .ok (.tuple #[v, .bool true]) w := by kernel_rfl
theorem keepQ {F : Go.Stop.Interp} {G g : Nat} {m a : Bool} {v1 vx : Value} {w2 wx wy : World} {cs cs' : List UInt8} (h : StL F G g m a v1 w2 cs wx vx) (hw : Wr F G g m a vx wx cs' wy) {Q j : Nat} {u : Value} (hQ : Q < G) (hc : wx.cell? ⟨Q, j, none⟩ = some u) : wy.cell? ⟨Q, j, none⟩ = some u := by
  have hfar := far_of h.st.pn
  have hge := h.st.pn.pr.ge
  obtain ⟨vy, hp, hs⟩ := hw
  rw [World.cell?_of_block (w := wx) (hs.kp.block Q (by omega) (fun hk => hfar Q hk hQ))]; exact hc
theorem rule_qual (F : Go.Stop.Interp) (uq : Bool) (G g : Nat) (a : Bool) (v : Value) (css : List UInt8) (Q B R : Nat) (slp : Value) (lp : List TD) (s : ByteArray) (cs : List Int) (sl : Value) (l : List TD) (w : World) (h : Pn F G w g true a v css)
    (hQG : Q < G) (hQ : w.heap[Q]? = some (.cells #[slp, .slice (some ⟨B, 0, none⟩) 1 1, .int .i32 0] 89)) (hrp : RowAt w (· < G) slp lp) (hokp : TsOk uq lp) (hTp : TokC F uq G lp) (hD : DeclIn G w B R s cs sl l)
    (hok : TsOk uq l) (hT : TokC F uq G l) (hb : css.length + costL lp + 8 * s.size + costL l + 2200 ≤ 140737488355328) :
    Calls Tryz.prog 51 #[.pointer (some ⟨g, 0, none⟩), .agg #[.iface 87 (.pointer (some ⟨Q, 0, none⟩)), .int .i32 0], .int .i32 0, .bool false] w fun e w' => e = .returned (.tuple #[]) ∧ Wr F G g true a v w (css ++ qualT a lp cs l) w' := by
  have hge := h.pr.ge
  have hro := rowT_len a uq _ lp (firstW lp) (Nat.le_refl _) hokp
  have hk0 : Kp (fun _ => False) w (w.alloc (.cells #[.iface 87 (.pointer (some ⟨Q, 0, none⟩)), .int .i32 0] 85)) := (Kp.refl _ w).alloc _
  have hkl : Kp (fun k => G ≤ k) w (w.alloc (.cells #[.iface 87 (.pointer (some ⟨Q, 0, none⟩)), .int .i32 0] 85)) := hk0.mono fun _ _ f => f.elim
  have S0 : Hid (StL F G g true a v (w.alloc (.cells #[.iface 87 (.pointer (some ⟨Q, 0, none⟩)), .int .i32 0] 85)) css (w.alloc (.cells #[.iface 87 (.pointer (some ⟨Q, 0, none⟩)), .int .i32 0] 85)) v) := Lib.hid ⟨⟨h.kp hk0, Stp.refl _ _ _⟩, Kp.refl _ _⟩
  have D0 := Lib.hid (hD.kp hge hkl)
  have Q0 := Lib.hid ((hk0.block Q (by omega) (fun f => f)).trans hQ)
  have P0 := Lib.hid (hrp.kp hk0 (fun k (hk : k < G) => Nat.lt_of_lt_of_le hk hge) (fun _ f => f.elim))
  have HK0 := Lib.hid hk0
  have HOK := Lib.hid hok
  have HT := Lib.hid hT
  have HOKP := Lib.hid hokp
  have HTP := Lib.hid hTp
  have HB := Lib.hid hb
  have HRO := Lib.hid hro
  clear h hQ hrp hD hok hT hokp hTp hb hro hk0 hkl
  have c0 : (w.alloc (.cells #[.iface 87 (.pointer (some ⟨Q, 0, none⟩)), .int .i32 0] 85)).cell? ⟨w.heap.size, 0, none⟩ = some (.iface 87 (.pointer (some ⟨Q, 0, none⟩))) := by rw [cell?_eq_of (heap_alloc_new w _)]; rfl
  generalize hw1 : w.alloc (.cells #[.iface 87 (.pointer (some ⟨Q, 0, none⟩)), .int .i32 0] 85) = w1 at *
  obtain ⟨y3, y5, y6, y7, y9, y15, yf⟩ := S0.out.st.pn.pr.f
  obtain ⟨q0, q1, q2⟩ := cells3 Q0.out
  obtain ⟨lw, hlw⟩ : ∃ x, lastW (firstW lp) lp = x := ⟨_, rfl⟩
  have HLW := Lib.hid hlw
  clear hlw
  obtain ⟨A, cap, rfl, -⟩ := P0.out.len
  go_enter Tryz.func51, Tryz.ntmps51
  go_upto_region 1 with fail
  have B0 : Hid (css.length + costL lp + 1000 ≤ 140737488355328) := Lib.hid (by have := HB.out; omega)
  go_wp2_with fail
  refine (HTP.out g true a _ _ _ 0 false _ S0.out.st.pn P0.out HOKP.out (.inl rfl) B0.out).mono ?_
  rw [HLW.out]; rintro e w9 ⟨rfl, hw9⟩
  obtain ⟨v1, S1⟩ := S0.out.go hw9
  replace S1 := Lib.hid S1
  clear hw9 y3 y5 y6 y7 y9 y15 yf q0 q1 q2 c0
  have hG1 : G ≤ w1.heap.size := S0.out.st.pn.pr.ge
  have D1 := Lib.hid (D0.out.kp hG1 S1.out.lo)
  have Q1 := Lib.hid ((S1.out.lo.block Q (by omega) (fun e => by omega)).trans Q0.out)
  obtain ⟨y3, y5, y6, y7, y9, y15, yf⟩ := S1.out.st.pn.pr.f
  obtain ⟨q0, q1, q2⟩ := cells3 Q1.out
  have hkd : Kp (fun _ => False) w9 w9.drew := (Kp.refl _ _).drew
  have S2 := Lib.hid (S1.out.kp hkd)
  have D2 := Lib.hid (D1.out.kp S1.out.st.pn.pr.ge (hkd.mono fun _ _ f => f.elim))
  have HBL := Lib.hid (block_decl F uq G g a v1 (css ++ rowT a (firstW lp) lp) B R s cs sl l w9.drew S2.out.st.pn D2.out HOK.out HT.out (by have := HB.out; have := HRO.out; simp only [List.length_append]; omega))
  have HQG := Lib.hid hQG
  clear hkd
  cases lw
  all_goals
    go_upto_region 152 with fail
    go_region_held3 (fun w' => w'.cell? ⟨Q, 1, none⟩ = some (.slice (some ⟨B, 0, none⟩) 1 1) ∧ w'.cell? ⟨Q, 2, none⟩ = some (.int .i32 0))
      (first | go_keep | exact ⟨keepQ S2.out (by assumption) HQG.out (by assumption), keepQ S2.out (by assumption) HQG.out (by assumption)⟩)
      ((go_at_call 82; refine HBL.out.mono ?_; rintro e w10 ⟨rfl, hw10⟩))
    obtain ⟨v3, S3⟩ := S2.out.go hw10
    replace S3 := Lib.hid S3
    clear hw10 y3 y5 y6 y7 y9 y15 yf q0 q1 q2
    obtain ⟨y3, y5, y6, y7, y9, y15, yf⟩ := S3.out.st.pn.pr.f
    go_wp2
    go_end0
    refine ⟨rfl, ?_⟩
    have hz := S3.out.wr HK0.out
    simpa [qualT] using hz
end Go.Proofs.YtkaejhdncohgpaaGreatFmt

/- Walk: impl.Qualified, minified. Condition: lengths that a machine can have. -/
namespace Go.Proofs.YtkaejhdncohgpaaGreatFmt
set_option linter.all false
open Go.RowKit Go.Lib
set_option maxRecDepth 100000
set_option maxHeartbeats 4000000

theorem Qual_any (F : Go.Stop.Interp) (uq : Bool) (s : ByteArray) (cs : List Int) (v1 v2 : Value) (lp l : List TD) (a : Bool) (w : World) (hT : TbG F w.heap.size w) (hc : ∀ c ∈ cs, Scal c) (hs : s.data.toList = encs cs) (hv1 : ToksC v1 lp w)
    (hv2 : ∀ w', Kp (fun _ => False) w w' → ToksC v2 l w') (hokp : TsOk uq lp) (hok : TsOk uq l) (hK : ∀ G l, TokC F uq G l) (hb : 8 * s.size + costL lp + costL l + 2200 ≤ 140737488355328) :
    Calls Tryz.prog 21 #[v1, .string s, v2, .bool true, .bool a] w fun e w' => e = .returned (.string (bstr (qualT a lp cs l))) ∧ Kp (fun _ => False) w w' := by
  have HV1 := Lib.hid hv1
  have HV2 := Lib.hid hv2
  have HT := Lib.hid hT
  have HOKP := Lib.hid hokp
  have HOK := Lib.hid hok
  have HK := Lib.hid hK
  have HC := Lib.hid hc
  have HS := Lib.hid hs
  have HB := Lib.hid hb
  clear hv1 hv2 hT hokp hok hK hc hs hb
  go_enter Tryz.func21, Tryz.ntmps21
  go_wp2_with (go_at_call 26; refine HV1.out.mono ?_)
  rintro e w2 ⟨v3, n3, rfl, hr3, hk3⟩
  have HV4 := Lib.hid (HV2.out w2 hk3)
  have HK3 := Lib.hid hk3
  have HR3 := Lib.hid hr3
  clear hk3 hr3
  go_wp2_with (go_at_call 26; refine HV4.out.mono ?_)
  rintro e w3 ⟨v4, n4, rfl, hr4, hk4⟩
  have HK4 := Lib.hid hk4
  have hP : Calls Tryz.prog 27 #[.iface 87 (.pointer (some ⟨w3.heap.size + 1 + 1, 0, none⟩)), .bool true, .bool a]
      (((w3.alloc (.cells #[.string s, v4, .int .i32 0, .int .i32 0, .int .u16 0, .bool false] 73)).alloc (.cells #[.iface 65 (.pointer (some ⟨w3.heap.size, 0, none⟩)), .int .i32 0] 85)).alloc (.cells #[v3, .slice (some ⟨w3.heap.size + 1, 0, none⟩) 1 1, .int .i32 0] 89))
      fun e w' => e = .returned (.string (bstr (qualT a lp cs l))) ∧ Kp (fun _ => False) (((w3.alloc (.cells #[.string s, v4, .int .i32 0, .int .i32 0, .int .u16 0, .bool false] 73)).alloc (.cells #[.iface 65 (.pointer (some ⟨w3.heap.size, 0, none⟩)), .int .i32 0] 85)).alloc (.cells #[v3, .slice (some ⟨w3.heap.size + 1, 0, none⟩) 1 1, .int .i32 0] 89)) w' := by
    have hx := heap_alloc_new ((w3.alloc (.cells #[.string s, v4, .int .i32 0, .int .i32 0, .int .u16 0, .bool false] 73)).alloc (.cells #[.iface 65 (.pointer (some ⟨w3.heap.size, 0, none⟩)), .int .i32 0] 85)) (.cells #[v3, .slice (some ⟨w3.heap.size + 1, 0, none⟩) 1 1, .int .i32 0] 89)
    have hy : (((w3.alloc (.cells #[.string s, v4, .int .i32 0, .int .i32 0, .int .u16 0, .bool false] 73)).alloc (.cells #[.iface 65 (.pointer (some ⟨w3.heap.size, 0, none⟩)), .int .i32 0] 85)).alloc (.cells #[v3, .slice (some ⟨w3.heap.size + 1, 0, none⟩) 1 1, .int .i32 0] 89)).heap[w3.heap.size + 1]? = some (.cells #[.iface 65 (.pointer (some ⟨w3.heap.size, 0, none⟩)), .int .i32 0] 85) := by
      rw [Below.heap_alloc _ _ _ (by simp)]
      have := heap_alloc_new (w3.alloc (.cells #[.string s, v4, .int .i32 0, .int .i32 0, .int .u16 0, .bool false] 73)) (.cells #[.iface 65 (.pointer (some ⟨w3.heap.size, 0, none⟩)), .int .i32 0] 85)
      rwa [show (w3.alloc (.cells #[.string s, v4, .int .i32 0, .int .i32 0, .int .u16 0, .bool false] 73)).heap.size = w3.heap.size + 1 by simp] at this
    have hz : (((w3.alloc (.cells #[.string s, v4, .int .i32 0, .int .i32 0, .int .u16 0, .bool false] 73)).alloc (.cells #[.iface 65 (.pointer (some ⟨w3.heap.size, 0, none⟩)), .int .i32 0] 85)).alloc (.cells #[v3, .slice (some ⟨w3.heap.size + 1, 0, none⟩) 1 1, .int .i32 0] 89)).heap[w3.heap.size]? = some (.cells #[.string s, v4, .int .i32 0, .int .i32 0, .int .u16 0, .bool false] 73) := by
      rw [Below.heap_alloc _ _ _ (by simp; omega), Below.heap_alloc _ _ _ (by simp)]
      exact heap_alloc_new _ _
    have hk5 : Kp (fun _ => False) w3 (((w3.alloc (.cells #[.string s, v4, .int .i32 0, .int .i32 0, .int .u16 0, .bool false] 73)).alloc (.cells #[.iface 65 (.pointer (some ⟨w3.heap.size, 0, none⟩)), .int .i32 0] 85)).alloc (.cells #[v3, .slice (some ⟨w3.heap.size + 1, 0, none⟩) 1 1, .int .i32 0] 89)) := (((Kp.refl _ w3).alloc _).alloc _).alloc _
    rw [show ((w3.alloc (.cells #[.string s, v4, .int .i32 0, .int .i32 0, .int .u16 0, .bool false] 73)).alloc (.cells #[.iface 65 (.pointer (some ⟨w3.heap.size, 0, none⟩)), .int .i32 0] 85)).heap.size = w3.heap.size + 1 + 1 by simp] at hx
    generalize (((w3.alloc (.cells #[.string s, v4, .int .i32 0, .int .i32 0, .int .u16 0, .bool false] 73)).alloc (.cells #[.iface 65 (.pointer (some ⟨w3.heap.size, 0, none⟩)), .int .i32 0] 85)).alloc (.cells #[v3, .slice (some ⟨w3.heap.size + 1, 0, none⟩) 1 1, .int .i32 0] 89)) = wN at *
    have hk6 := (HK3.out.trans HK4.out).trans hk5
    have hsz : w3.heap.size + 1 + 1 < wN.heap.size := (Array.getElem?_eq_some_iff.1 hx).1
    refine printed_any F true a 87 (w3.heap.size + 1 + 1) _ _ ((HT.out.kp hk6 (fun _ f => f.elim)).up hk6.size) ?_
    intro w0 g v w' hk0 hk' hp
    have hall := hk0.trans hk'
    have s0 := hk0.size
    have s3 := HK4.out.size
    have hrow3 : RowAt w' (· < w0.heap.size) v3 lp := (HR3.out.kp (D := fun k => w.heap.size ≤ k ∧ k < w2.heap.size) ((HK4.out.trans hk5).trans hall) (fun k hk => hk.2) (fun _ f => f.elim)).mono (fun k hk => by omega)
    have hrow4 : RowAt w' (· < w0.heap.size) v4 l := (hr4.kp (D := fun k => w2.heap.size ≤ k ∧ k < w3.heap.size) (hk5.trans hall) (fun k hk => hk.2) (fun _ f => f.elim)).mono (fun k hk => by omega)
    have hQ := (hall.block _ hsz (fun f => f)).trans hx
    have hBB := (hall.block _ (by omega) (fun f => f)).trans hy
    have hRR := (hall.block _ (by omega) (fun f => f)).trans hz
    have := rule_qual F uq w0.heap.size g a v [] (w3.heap.size + 1 + 1) (w3.heap.size + 1) w3.heap.size v3 lp s cs v4 l w' hp (by omega) hQ hrow3 HOKP.out (HK.out _ _) ⟨hBB, hRR, by omega, by omega, hrow4, HS.out, HC.out⟩ HOK.out (HK.out _ _) (by have := HB.out; simp only [List.length_nil]; omega)
    simpa only [List.nil_append] using this
  have HP := Lib.hid hP
  obtain ⟨A3, k3, rfl, -⟩ := HR3.out.len
  obtain ⟨A4, k4, rfl, -⟩ := hr4.len
  clear hP hk4 hr4 HV1 HV2 HV4
  go_wp2_with (go_at_call 27; refine HP.out.mono ?_)
  rintro e w5 ⟨rfl, hk5⟩
  have HK5 : Hid (Kp (fun _ => False) w w5) := Lib.hid ((((((HK3.out.trans HK4.out).alloc _).alloc _).alloc _)).trans hk5)
  clear hk5
  go_wp2
  go_ret
  exact ⟨rfl, HK5.out⟩
end Go.Proofs.YtkaejhdncohgpaaGreatFmt

/- Walk: the law of the three roads. Condition: lengths that a machine can have. -/
namespace Go.Proofs.YtkaejhdncohgpaaGreatFmt
set_option linter.all false
open Go.RowKit Go.Lib
set_option maxRecDepth 100000
set_option maxHeartbeats 8000000

theorem toksC_tree (l : List ND) (v : Value) (w : World) (hx : SlC w v l) (hk : TreeOk false l) : ToksC v (bldL 0 l).1 w :=
  (toks_any (l.length + 1) l 0 v w (by omega) hx hk.len (Int.le_refl _) (fun n hn => ⟨hk.nd n hn, hk.dep n hn⟩)).mono fun e w' ⟨v', n, he, _, hr, hk⟩ => ⟨v', n, he, hr, hk⟩
theorem bldL_ok (l : List ND) (h : ∀ n ∈ l, NOk n) : TsOk true (bldL 0 l).1 := bld_ok _ _ _ h
theorem bldL_cost (l : List ND) (a : Bool) (h : TreeOk a l) : costL (bldL 0 l).1 ≤ 9000000 := by
  have h1 := bld_cost l.length 0 l h.nd
  have h2 := h.sum
  have h3 := h.len
  unfold bldL; omega
theorem bldL_ne (l : List ND) (h : ∀ n ∈ l, 0 ≤ n.d) (hl : l ≠ []) : (bldL 0 l).1 ≠ [] := by
  cases l with
  | nil => exact absurd rfl hl
  | cons n r =>
    have := h n (by simp)
    rw [bldL_cons, if_neg (by omega)]
    split <;> simp
theorem ident_k (a : Bool) : identP a false (iniE 0 [107]) [107] = [107] := by cases a <;> decide
theorem ident_x (a : Bool) : identP a true (iniE 0 [120]) [120] = [120] := by cases a <;> decide
theorem decl_text (a : Bool) (l : List TD) : declT true a false [107] l = [107, 58] ++ rowT a (firstW l) l ++ [59] := by
  unfold declT
  rw [ident_k]
  simp
theorem at_text (a : Bool) (l : List TD) (hl : l ≠ []) : atT true a [120] l = [64, 120, 32] ++ rowT a (firstW l) l ++ [59] := by
  unfold atT
  simp only [hl, ne_eq, not_false_eq_true, decide_true, if_false, if_true]
  rw [ident_x]
  simp
theorem qual_text (a : Bool) (l : List TD) : qualT a l [107] l = rowT a (firstW l) l ++ [123, 107, 58] ++ rowT a (firstW l) l ++ [125] := by
  unfold qualT declQ
  rw [ident_k]
  simp
theorem Three_any (F : Go.Stop.Interp) (l : List ND) (v : Value) (a : Bool) (w : World) (hT : TbG F w.heap.size w) (hv : SlN w v l) (hl : l.length ≤ 9223372036854775807) :
    Calls Tryz.prog 6 #[v, .bool a] w fun e w' => e = .returned (.bool true) ∧ Kp (fun _ => False) w w' := by
  have HV := Lib.hid hv
  have HF := Lib.hid (fits_any l v w hv hl)
  have HT := Lib.hid hT
  have HW : Hid (∀ w', Kp (fun _ => False) w w' → Calls Tryz.prog 8 #[] w' fun e w'' => e = .returned (.bool true) ∧ Kp (fun _ => False) w' w'') := Lib.hid fun w' hk => wakes_any F w' ((HT.out.kp hk (fun _ f => f.elim)).up hk.size)
  obtain ⟨Ax, cx, rfl, -⟩ := hv
  clear hT
  go_enter Tryz.func6, Tryz.ntmps6
  go_wp2_with fail
  refine HF.out.mono ?_
  rintro e w1 ⟨⟨b, rfl, hb⟩, hk1⟩
  have HB := Lib.hid hb
  have HK1 := Lib.hid hk1
  clear hb hk1 HF
  cases b
  · go_wp2
    go_ret
    exact ⟨rfl, HK1.out⟩
  have HTR := Lib.hid (tree_any l _ a w1 (HV.out.kp HK1.out) (HB.out rfl).1 (HB.out rfl).2)
  clear HB
  go_wp2_with fail
  refine HTR.out.mono ?_
  rintro e w2 ⟨hR, hk2⟩
  have HK2 := Lib.hid (HK1.out.trans hk2)
  clear hk2 HTR
  rcases hR with ⟨v2, rfl⟩ | ⟨v2, l2, rfl, hlk, htk, ho⟩
  · go_wp2_with fail
    refine (HW.out _ HK2.out).mono ?_
    rintro e w3 ⟨rfl, hk3⟩
    have HK3 := Lib.hid (HK2.out.trans hk3)
    clear hk3
    go_wp2
    go_ret
    exact ⟨rfl, HK3.out⟩
  have HO := Lib.hid ho
  have HTK : Hid (TreeOk false l2) := Lib.hid ⟨htk.nd, htk.len, htk.dep, htk.sum, htk.d0⟩
  obtain ⟨A2, c2, rfl⟩ := own_nil ho rfl
  clear hlk htk ho
  by_cases hne : l2 = []
  · have hz : l2.length = 0 := by rw [hne]; rfl
    clear hne
    dsimp only
    rw [hz]
    go_wp2_with fail
    refine (HW.out _ HK2.out).mono ?_
    rintro e w3 ⟨rfl, hk3⟩
    have HK3 := Lib.hid (HK2.out.trans hk3)
    clear hk3
    go_wp2
    go_ret
    exact ⟨rfl, HK3.out⟩
  have hpos : 0 < l2.length := List.length_pos_iff.2 hne
  have h1000 := HTK.out.len
  have HNE := Lib.hid (bldL_ne l2 HTK.out.d0 hne)
  have HOKL := Lib.hid (bldL_ok l2 HTK.out.nd)
  have HCL := Lib.hid (bldL_cost l2 false HTK.out)
  have HTC : Hid (∀ w', Kp (fun _ => False) w2 w' → ToksC (.slice A2 l2.length c2) (bldL 0 l2).1 w') := Lib.hid fun w' hk => toksC_tree l2 _ w' ((SlC.own HO.out).kp hk) HTK.out
  clear hne HTK HO
  generalize (bldL 0 l2).1 = L at *
  have HTL := Lib.hid (rowT_len a true _ L (firstW L) (Nat.le_refl _) HOKL.out)
  have hcT : ∀ w', Kp (fun _ => False) w2 w' → TbG F w'.heap.size w' := fun w' hk => (HT.out.kp (HK2.out.trans hk) (fun _ f => f.elim)).up (HK2.out.trans hk).size
  have hKQ : ∀ G l, TokC F true G l := fun G l => tokens_q F (quot_sum F) G l
  have hD : ∀ w', Kp (fun _ => False) w2 w' → Calls Tryz.prog 13 #[.string ⟨#[107]⟩, .slice A2 l2.length c2, .bool false, .bool true, .bool a] w' fun e w'' => e = .returned (.string (bstr ([107, 58] ++ rowT a (firstW L) L ++ [59]))) ∧ Kp (fun _ => False) w' w'' := fun w' hk => by
    have := Decl_any F true ⟨#[107]⟩ [107] _ L true a false w' (hcT w' hk) (fun c hc => ((nm_k a).pl c hc).1) (by decide) (HTC.out w' hk) HOKL.out (fun G => hKQ G L) (.inl rfl) (by have := HCL.out; show 8 * 1 + _ + 2000 ≤ _; omega)
    rwa [decl_text] at this
  have hA : ∀ w', Kp (fun _ => False) w2 w' → Calls Tryz.prog 11 #[.string ⟨#[120]⟩, .slice A2 l2.length c2, .bool true, .bool a] w' fun e w'' => e = .returned (.string (bstr ([64, 120, 32] ++ rowT a (firstW L) L ++ [59]))) ∧ Kp (fun _ => False) w' w'' := fun w' hk => by
    have := At_any F true ⟨#[120]⟩ [120] _ L true a w' (hcT w' hk) (fun c hc => by simp at hc; subst hc; exact (Pl_lo (by decide) (by decide)).1) (by decide) (HTC.out w' hk) HOKL.out (fun G => hKQ G L) (by have := HCL.out; show 8 * 1 + _ + 2000 ≤ _; omega)
    rwa [at_text _ _ HNE.out] at this
  have hQ : ∀ w', Kp (fun _ => False) w2 w' → Calls Tryz.prog 21 #[.slice A2 l2.length c2, .string ⟨#[107]⟩, .slice A2 l2.length c2, .bool true, .bool a] w' fun e w'' => e = .returned (.string (bstr (rowT a (firstW L) L ++ [123, 107, 58] ++ rowT a (firstW L) L ++ [125]))) ∧ Kp (fun _ => False) w' w'' := fun w' hk => by
    have := Qual_any F true ⟨#[107]⟩ [107] _ _ L L a w' (hcT w' hk) (fun c hc => ((nm_k a).pl c hc).1) (by decide) (HTC.out w' hk) (fun w'' hk' => HTC.out w'' (hk.trans hk')) HOKL.out HOKL.out hKQ (by have := HCL.out; show 8 * 1 + _ + _ + 2200 ≤ _; omega)
    rwa [qual_text] at this
  have HLT : Hid ((rowT a (firstW L) L).length ≤ 9000001) := Lib.hid (by have := HTL.out; have := HCL.out; omega)
  generalize rowT a (firstW L) L = T at *
  have HBT : Hid (∀ w', Calls Tryz.prog 20 #[.string (bstr ([107, 58] ++ T ++ [59])), .string ⟨#[107, 58]⟩, .string ⟨#[59]⟩] w' fun e w'' => e = .returned (.string (bstr T)) ∧ w'' = w') := Lib.hid fun w' => Between_any T [107, 58] [59] w' (by have := HLT.out; simp; omega)
  have e1 : (⟨#[107, 58]⟩ : ByteArray) ++ bstr T = bstr ([107, 58] ++ T) := bstr_add [107, 58] T
  have e2 : bstr ([107, 58] ++ T) ++ (⟨#[59]⟩ : ByteArray) = bstr ([107, 58] ++ T ++ [59]) := bstr_add _ [59]
  have e3 : (⟨#[64, 120, 32]⟩ : ByteArray) ++ bstr T = bstr ([64, 120, 32] ++ T) := bstr_add [64, 120, 32] T
  have e4 : bstr ([64, 120, 32] ++ T) ++ (⟨#[59]⟩ : ByteArray) = bstr ([64, 120, 32] ++ T ++ [59]) := bstr_add _ [59]
  have e5 : bstr T ++ (⟨#[123, 107, 58]⟩ : ByteArray) = bstr (T ++ [123, 107, 58]) := bstr_add _ [123, 107, 58]
  have e6 : bstr (T ++ [123, 107, 58]) ++ bstr T = bstr (T ++ [123, 107, 58] ++ T) := bstr_add _ _
  have e7 : bstr (T ++ [123, 107, 58] ++ T) ++ (⟨#[125]⟩ : ByteArray) = bstr (T ++ [123, 107, 58] ++ T ++ [125]) := bstr_add _ [125]
  have z0 : (bstr T).size ≤ 9000001 := by rw [bstr_size]; exact HLT.out
  have z1 : (bstr ([107, 58] ++ T)).size ≤ 30000000 := by rw [bstr_size]; have := HLT.out; simp; omega
  have z3 : (bstr ([64, 120, 32] ++ T)).size ≤ 30000000 := by rw [bstr_size]; have := HLT.out; simp; omega
  have z5 : (bstr (T ++ [123, 107, 58])).size ≤ 30000000 := by rw [bstr_size]; have := HLT.out; simp; omega
  have z6 : (bstr (T ++ [123, 107, 58] ++ T)).size ≤ 30000000 := by rw [bstr_size]; have := HLT.out; simp; omega
  have HD := Lib.hid hD
  have HA := Lib.hid hA
  have HQ := Lib.hid hQ
  clear hD hA hQ hcT hKQ HTL HNE HOKL HCL HTC HLT
  generalize bstr ([107, 58] ++ T ++ [59]) = xD at *
  generalize bstr ([64, 120, 32] ++ T ++ [59]) = xA at *
  generalize bstr (T ++ [123, 107, 58] ++ T ++ [125]) = xQ at *
  generalize bstr (T ++ [123, 107, 58] ++ T) = x6 at *
  generalize bstr (T ++ [123, 107, 58]) = x5 at *
  generalize bstr ([107, 58] ++ T) = x1 at *
  generalize bstr ([64, 120, 32] ++ T) = x3 at *
  generalize bstr T = xT at *
  have s1 : (⟨#[107, 58]⟩ : ByteArray).size + xT.size ≤ 9223372036854775807 := by show 2 + _ ≤ _; omega
  have s2 : x1.size + (⟨#[59]⟩ : ByteArray).size ≤ 9223372036854775807 := by show _ + 1 ≤ _; omega
  have s3 : (⟨#[64, 120, 32]⟩ : ByteArray).size + xT.size ≤ 9223372036854775807 := by show 3 + _ ≤ _; omega
  have s4 : x3.size + (⟨#[59]⟩ : ByteArray).size ≤ 9223372036854775807 := by show _ + 1 ≤ _; omega
  have s5 : xT.size + (⟨#[123, 107, 58]⟩ : ByteArray).size ≤ 9223372036854775807 := by show _ + 3 ≤ _; omega
  have s6 : x5.size + xT.size ≤ 9223372036854775807 := by omega
  have s7 : x6.size + (⟨#[125]⟩ : ByteArray).size ≤ 9223372036854775807 := by show _ + 1 ≤ _; omega
  dsimp only
  go_wp2_with fail
  refine (HD.out w2 (Kp.refl _ _)).mono ?_
  rintro e w3 ⟨rfl, hk3⟩
  have HK3 := Lib.hid hk3
  clear hk3
  go_wp2_with fail
  refine (HBT.out w3).mono ?_
  rintro e w4 ⟨rfl, rfl⟩
  go_wp2_with fail
  refine (HD.out _ HK3.out).mono ?_
  rintro e w5 ⟨rfl, hk5⟩
  have HK5 := Lib.hid (HK3.out.trans hk5)
  clear hk5
  go_wp2_with fail
  refine (HA.out _ HK5.out).mono ?_
  rintro e w6 ⟨rfl, hk6⟩
  have HK6 := Lib.hid (HK5.out.trans hk6)
  clear hk6
  go_wp2_with fail
  refine (HQ.out _ HK6.out).mono ?_
  rintro e w7 ⟨rfl, hk7⟩
  have HK7 := Lib.hid (HK2.out.trans (HK6.out.trans hk7))
  clear hk7
  go_wp2_with fail
  refine (HW.out _ HK7.out).mono ?_
  rintro e w8 ⟨rfl, hk8⟩
  have HK8 := Lib.hid (HK7.out.trans hk8)
  clear hk8
  go_wp2
  go_ret
  exact ⟨rfl, HK8.out⟩
end Go.Proofs.YtkaejhdncohgpaaGreatFmt
