/- Walk: NewSymbolMap, MakeChunkBuilder; Walk: Print at one rule; Walk: impl.printed at one rule. -/
import Derived.Test.YtkaejhdncohgpaaGreatFmtM2
import Derived.Test.YtkaejhdncohgpaaGreatFmtM4
import Derived.WideMake
import Derived.Laws.Tables
import Derived.Laws.Rows
import Derived.Deep.RegionHeld3
import Derived.Deep.CutRange
import Derived.Deep.CutBlock
/- Walk: NewSymbolMap, MakeChunkBuilder. -/
namespace Go.Proofs.YtkaejhdncohgpaaGreatFmt
set_option linter.all false
open Go.RowKit Go.Lib
set_option maxRecDepth 100000
set_option maxHeartbeats 4000000

@[go_sem] theorem run_make125 (w : World) : (Instr.makeSlice 125 (.int .i64 1) (.int .i64 1)).run Tryz.prog w = .ok (.slice (some ⟨w.heap.size, 0, none⟩) 1 1) (w.alloc (.cells #[.slice none 0 0] 101)) := by kernel_rfl
@[go_sem] theorem run_makeMap152 (w : World) : (Instr.makeMap 152 none).run Tryz.prog w = .ok (.map (some w.heap.size)) (w.alloc (.map #[] 0)) := by kernel_rfl
/-- A whole struct is stored into a block that was made as one. -/
theorem store_blk {w : World} {ops : Array Oper} {rest : List Oper} {o : Oper} {a : Act} {Q : Exit → Act → World → Prop} (ty : TypeId) (x y : Operand) (ho : o.op = .store ty x y) (hgd : o.guard = none)
    (g n : Nat) (t : TypeId) (hi : (Tryz.prog.info? ty).map (·.size) = some n) (hx : a.eval x = .pointer (some ⟨g, 0, none⟩)) (hg : ∃ old, w.heap[g]? = some (.cells old t) ∧ old.size = n) (hy : ∃ cs, a.eval y = .agg cs ∧ cs.size = n ∧ cs.all (·.oneCell') = true)
    (h : ∀ (cs : Array Value) (w1 : World), a.eval y = .agg cs → cs.size = n → cs.all (·.oneCell') = true → w1.heap[g]? = some (.cells cs t) → Kp (fun k => k = g) w w1 → wpList Tryz.prog ops Q rest (a.put o.dst undef) w1) : wpList Tryz.prog ops Q (o :: rest) a w := by
  obtain ⟨old, hg, hold⟩ := hg
  obtain ⟨cs, hy, hn, h1⟩ := hy
  subst hn
  refine wpList_plain hgd fun K hK => wp_store_row ty x y ho g cs hx hy t old hg hi hold h1 (hK _ _ (h _ _ hy rfl h1 ?_ ?_))
  · simp [World.setRow, Array.getElem?_modify, hg]
  · refine ⟨rfl, rfl, rfl, by simp [World.setRow], fun k hk hs => ?_⟩
    simp [World.setRow, Array.getElem?_modify, Ne.symm hs]
/-- ... one operation by itself. -/
theorem store_op {w : World} {o : Oper} {a : Act} {K : Act → World → Prop} {Q : Exit → Act → World → Prop} (ty : TypeId) (x y : Operand) (ho : o.op = .store ty x y)
    (g n : Nat) (t : TypeId) (hi : (Tryz.prog.info? ty).map (·.size) = some n) (cs : Array Value) (hx : a.eval x = .pointer (some ⟨g, 0, none⟩)) (hg : ∃ old, w.heap[g]? = some (.cells old t) ∧ old.size = n) (hy : a.eval y = .agg cs) (hn : cs.size = n) (h1 : cs.all (·.oneCell') = true)
    (h : ∀ w1 : World, w1.heap[g]? = some (.cells cs t) → Kp (fun k => k = g) w w1 → K (a.put o.dst undef) w1) : o.wp Tryz.prog a w K Q := by
  obtain ⟨old, hg, hold⟩ := hg
  subst hn
  refine wp_store_row ty x y ho g cs hx hy t old hg hi hold h1 (h _ ?_ ?_)
  · simp [World.setRow, Array.getElem?_modify, hg]
  · refine ⟨rfl, rfl, rfl, by simp [World.setRow], fun k hk hs => ?_⟩
    simp [World.setRow, Array.getElem?_modify, Ne.symm hs]
/-- A whole struct out of a block. -/
theorem load_blk {w : World} (g : Nat) (ty t : TypeId) (cs : Array Value) {f : _} (hg : w.heap[g]? = some (.cells cs t))
    (hu : Tryz.prog.underlying ty = some (.struct f)) (hi : (Tryz.prog.info? ty).map (·.size) = some cs.size) : (loadVar ty ⟨g, 0, none⟩).run Tryz.prog w = .ok (.agg cs) w :=
  run_loadVar_row w g t ty cs (0, 0) _ hg hu rfl hi

/-- ... at the list of a region's operations. -/
theorem load_list {w : World} {ops : Array Oper} {rest : List Oper} {o : Oper} {a : Act} {Q : Exit → Act → World → Prop} (ty : TypeId) (x : Operand) (ho : o.op = .load ty x) (hgd : o.guard = none)
    (g n : Nat) (t : TypeId) (cs : Array Value) {f : _} (hu : Tryz.prog.underlying ty = some (.struct f)) (hi : (Tryz.prog.info? ty).map (·.size) = some n) (hg : w.heap[g]? = some (.cells cs t)) (hn : cs.size = n) (hx : a.eval x = .pointer (some ⟨g, 0, none⟩))
    (h : wpList Tryz.prog ops Q rest (a.put o.dst (.agg cs)) w) : wpList Tryz.prog ops Q (o :: rest) a w :=
  wpList_load_row hgd ty x ho g hx t cs (0, 0) _ hg hu rfl (by rw [hn]; exact hi) h
/-- A store into a new block, with the cells known ahead. -/
theorem store_lit {w : World} {ops : Array Oper} {rest : List Oper} {o : Oper} {a : Act} {Q : Exit → Act → World → Prop} (ty : TypeId) (x y : Operand) (ho : o.op = .store ty x y) (hgd : o.guard = none)
    (g n : Nat) (t : TypeId) (hi : (Tryz.prog.info? ty).map (·.size) = some n) (cs : Array Value) (hx : a.eval x = .pointer (some ⟨g, 0, none⟩)) (hy : a.eval y = .agg cs) (hn : cs.size = n) (h1 : cs.all (·.oneCell') = true) (hg : ∃ old, w.heap[g]? = some (.cells old t) ∧ old.size = n)
    (h : ∀ w1 : World, w1.heap[g]? = some (.cells cs t) → Kp (fun k => k = g) w w1 → wpList Tryz.prog ops Q rest (a.put o.dst undef) w1) : wpList Tryz.prog ops Q (o :: rest) a w :=
  wpList_plain hgd fun _ hK => store_op ty x y ho g n t hi cs hx hg hy hn h1 fun w1 hb hk => hK _ _ (h w1 hb hk)

theorem NewSymbolMap_any (w : World) :
    Calls Tryz.prog 41 #[.int .i64 1] w fun e w' => (∃ sv, e = .returned (.agg #[sv]) ∧ sv.oneCell' = true) ∧ Kp (fun _ => False) w w' := by
  go_enter Tryz.func41, Tryz.ntmps41
  go_wp2
  refine bodyPost_ret (v := .agg #[.slice (some ⟨w.heap.size + 1, 0, none⟩) 1 1]) (by simp [results, Tryz.results41, go_sem]) rfl ⟨⟨_, rfl, rfl⟩, ((Kp.refl _ w).alloc _).alloc _⟩

theorem size154 : (Tryz.prog.info? 154).map (·.size) = some 22 := by kernel_rfl
/-- The builder that MakeChunkBuilder makes. -/
def mcbC (k : Nat) (b : Bool) : Array Value := #[.pointer none, .slice none 0 0, .slice none 0 0, .map (some k), .slice none 0 0, .string ⟨#[]⟩, .int .i64 0, .int .i64 0, .int .i64 0, .int .i64 0, .int .i64 0, .int .i64 0, .bool false, .int .i64 0, .int .i64 0, .int .i64 0, .int .i32 (-1), .int .u32 0, .bool false, .bool b, .bool false, .bool true]
theorem MakeChunkBuilder_any (b : Bool) (w : World) :
    Calls Tryz.prog 50 #[.pointer none, .slice none 0 0, .bool b] w fun e w' => ∃ k, e = .returned (.agg (mcbC k b)) ∧ Kp (fun _ => False) w w' := by
  go_enter Tryz.func50, Tryz.ntmps50
  go_wp2_with (refine store_blk 154 (.tmp 6) (.tmp 14) rfl rfl w.heap.size 22 154 size154 rfl ?old ?val ?_)
  case old => exact ⟨_, (Below.heap_alloc _ _ _ (by simp)).trans (heap_alloc_new _ _), rfl⟩
  case val => exact ⟨_, rfl, rfl, by simp [Value.oneCell']⟩
  intro cs w1 hcs hn h1 hb hk
  have hcs2 : cs = mcbC (w.heap.size + 1) b := hcs.symm
  have HK : Hid (Kp (fun _ => False) w w1) := Lib.hid ((((Kp.refl _ w).alloc _).alloc _).trans' hk (fun k hk e => by omega))
  clear hcs hk h1
  go_wp2
  refine bodyPost_ret (v := .agg cs) ?_ rfl ⟨_, by rw [hcs2], HK.out⟩
  have := load_blk w.heap.size 154 154 cs hb Tryz.underlying154 (by rw [hn]; exact size154)
  simp [results, Tryz.results50, asAddr, this]

end Go.Proofs.YtkaejhdncohgpaaGreatFmt

/- Walk: Print at one rule. -/
namespace Go.Proofs.YtkaejhdncohgpaaGreatFmt
set_option linter.all false
open Go.RowKit Go.Lib
set_option maxRecDepth 100000
set_option maxHeartbeats 4000000

/-- The options that impl.printed hands over, and the tree of one list of rules. -/
def optC (m a : Bool) : Array Value := #[.pointer none, .slice none 0 0, .map none, .int .i64 0, .int .u32 0, .int .u16 0, .bool m, .bool a, .int .u8 0, .bool false, .int .u8 0, .bool false, .int .u8 0]
def treeC (rs : Value) : Array Value := #[.slice none 0 0, .pointer none, .slice none 0 0, rs, .string ⟨#[]⟩, .int .i32 0, .int .i32 0, .int .i32 0, .slice none 0 0, .map none, .map none, .map none, .slice none 0 0, .slice none 0 0]
/-- What Print hands back. -/
def outC (v : Value) : Array Value := #[v, .slice none 0 0, .slice none 0 0, .slice none 0 0, .int .u32 0, .slice none 0 0, .int .i64 0, .int .i64 0, .int .i64 0, .int .i64 0, .int .i64 0, .int .i64 0, .bool false, .int .i64 0, .bool false]
/-- The result's cells ahead of the print. -/
def zeroC : Array Value := #[.slice none 0 0, .slice none 0 0, .slice none 0 0, .slice none 0 0, .int .u32 0, .slice none 0 0, .int .i64 0, .int .i64 0, .int .i64 0, .int .i64 0, .int .i64 0, .int .i64 0, .bool false, .int .i64 0, .bool false]
def zero43 : Array Value := #[.pointer none, .slice none 0 0, .map none, .int .i64 0, .int .u32 0, .int .u16 0, .bool false, .bool false, .int .u8 0, .bool false, .int .u8 0, .bool false, .int .u8 0, .slice none 0 0, .slice none 0 0,
  .slice none 0 0, .map none, .slice none 0 0, .slice none 0 0, .pointer none, .slice none 0 0, .slice none 0 0, .map none, .slice none 0 0, .string ⟨#[]⟩, .int .i64 0, .int .i64 0, .int .i64 0, .int .i64 0, .int .i64 0, .int .i64 0, .bool false, .int .i64 0, .int .i64 0, .int .i64 0, .int .i32 0, .int .u32 0, .bool false, .bool false, .bool false, .bool false, .int .i64 0, .int .i64 0]
/-- The printer's cells as Print makes them. -/
def prC (m a : Bool) (sv : Value) (k : Nat) : Array Value := #[.pointer none, .slice none 0 0, .map none, .int .i64 0, .int .u32 0, .int .u16 0, .bool m, .bool a, .int .u8 0, .bool false, .int .u8 0, .bool false, .int .u8 0, sv, .slice none 0 0,
  .slice none 0 0, .map none, .slice none 0 0, .slice none 0 0, .pointer none, .slice none 0 0, .slice none 0 0, .map (some k), .slice none 0 0, .string ⟨#[]⟩, .int .i64 0, .int .i64 0, .int .i64 0, .int .i64 0, .int .i64 0, .int .i64 0, .bool false, .int .i64 0, .int .i64 0, .int .i64 0, .int .i32 (-1), .int .u32 0, .bool false, .bool a, .bool false, .bool true, .int .i64 0, .int .i64 0]
theorem size137 : (Tryz.prog.info? 137).map (·.size) = some 13 := by kernel_rfl
theorem size111 : (Tryz.prog.info? 111).map (·.size) = some 14 := by kernel_rfl
theorem size127 : (Tryz.prog.info? 127).map (·.size) = some 1 := by kernel_rfl
theorem size158 : (Tryz.prog.info? 158).map (·.size) = some 43 := by kernel_rfl
theorem size123 : (Tryz.prog.info? 123).map (·.size) = some 15 := by kernel_rfl
theorem size85 : (Tryz.prog.info? 85).map (·.size) = some 2 := by kernel_rfl
/-- A whole struct is loaded first in a region that draws. -/
theorem yields_blk {ops : Array Oper} {S : World → Prop} {oi : Oper} {a : Act} (hw : Region.wanted oi (yielded ops a.tmps) = true) (ty : TypeId) (x : Operand) (ho : oi.op = .load ty x) (g : Nat) (hx : a.eval x = .pointer (some ⟨g, 0, none⟩)) (cs : Array Value) (t : TypeId) {f : _}
    (hS : ∀ w, S w → w.heap[g]? = some (.cells cs t)) (hu : Tryz.prog.underlying ty = some (.struct f)) (hi : (Tryz.prog.info? ty).map (·.size) = some cs.size) : YieldsIf Tryz.prog ops S oi (.agg cs) a :=
  .inl ⟨hw, fun w hw' => by
    unfold execOp
    simp only [ho, hx, Instr.loadAt, Instr.sureAddr, Sem.run_bind, Sem.run_pure, Result.andThen_ok, load_blk g ty t cs (hS w hw') hu hi]⟩
/-- A struct is put together first in a region that draws. -/
theorem yields_build {ops : Array Oper} {S : World → Prop} {oi : Oper} {a : Act} (hw : Region.wanted oi (yielded ops a.tmps) = true) (t : TypeId) (parts : List (Nat × Operand)) (ho : oi.op = .build t parts.toArray) (cells : Array Value) (vals : List (Nat × Value))
    (hv : parts.map (fun (i, x) => (i, a.eval x)) = vals) (hc : Tryz.prog.built t vals = some cells) : YieldsIf Tryz.prog ops S oi (.agg cells) a :=
  .inl ⟨hw, fun w _ => by
    have hc2 : Tryz.prog.built t (parts.toArray.map fun (i, x) => (i, a.eval x)).toList = some cells := by simpa [hv] using hc
    unfold execOp
    simp only [ho, Sem.run_bind, run_build w t _ cells hc2, Result.andThen_ok, Sem.run_pure]⟩
theorem built158 (m a : Bool) (sv : Value) (k : Nat) : Tryz.prog.built 158 [(0, .agg (optC m a)), (1, .agg #[sv]), (2, .slice none 0 0), (7, .agg (mcbC k a))] = some (prC m a sv k) := by kernel_rfl
/-- The heaps' blocks that Print reads its arguments from. -/
def PrS (b3 b4 b5 : Nat) (t : Array Value) (sv : Value) (o : Array Value) (w : World) : Prop := w.heap[b3]? = some (.cells t 111) ∧ w.heap[b4]? = some (.cells #[sv] 127) ∧ w.heap[b5]? = some (.cells o 137)
theorem PrS.kp {b3 b4 b5 : Nat} {t : Array Value} {sv : Value} {o : Array Value} {w w' : World} {S : Nat → Prop} (h : PrS b3 b4 b5 t sv o w) (hk : Kp S w w') (h3 : ¬ S b3) (h4 : ¬ S b4) (h5 : ¬ S b5) : PrS b3 b4 b5 t sv o w' := by
  obtain ⟨x, y, z⟩ := h
  exact ⟨(hk.block b3 (Array.getElem?_eq_some_iff.1 x).1 h3).trans x, (hk.block b4 (Array.getElem?_eq_some_iff.1 y).1 h4).trans y, (hk.block b5 (Array.getElem?_eq_some_iff.1 z).1 h5).trans z⟩

theorem prC_one (m a : Bool) (sv : Value) (k : Nat) (h : sv.oneCell' = true) : (prC m a sv k).all (·.oneCell') = true := by simpa [prC, Value.oneCell'] using h
theorem outC_one (A : Option Addr) (k d : Nat) : (outC (.slice A k d)).all (·.oneCell') = true := by simp [outC, Value.oneCell']
theorem PrS.kf {b3 b4 b5 : Nat} {t : Array Value} {sv : Value} {o : Array Value} {w w' : World} (h : PrS b3 b4 b5 t sv o w) (hk : Kp (fun _ => False) w w') : PrS b3 b4 b5 t sv o w' := h.kp hk (fun h => h) (fun h => h) (fun h => h)
theorem Print_any (F : Go.Stop.Interp) (m a : Bool) (it ir : Nat) (rb : Nat) (text : List UInt8) (sv : Value) (hsv : sv.oneCell' = true) (w : World) (hT : TbG F w.heap.size w) (hR : w.heap[rb]? = some (.cells #[.iface it (.pointer (some ⟨ir, 0, none⟩)), .int .i32 0] 85))
    (hrule : ∀ (g : Nat) (v : Value) (w' : World), Kp (fun _ => False) w w' → Pn F w.heap.size w' g m a v [] → Calls Tryz.prog 51 #[.pointer (some ⟨g, 0, none⟩), .agg #[.iface it (.pointer (some ⟨ir, 0, none⟩)), .int .i32 0], .int .i32 0, .bool false] w' fun e w'' => e = .returned (.tuple #[]) ∧ Wr F w.heap.size g m a v w' text w'') :
    Calls Tryz.prog 40 #[.agg (treeC (.slice (some ⟨rb, 0, none⟩) 1 1)), .agg #[sv], .agg (optC m a)] w fun e w' => ∃ v, e = .returned (.agg (outC v)) ∧ w'.ownsRow w.heap.size 5 1 v text.length (bys text) ∧ Kp (fun _ => False) w w' := by
  unfold treeC optC
  go_enter Tryz.func40, Tryz.ntmps40
  go_upto_region 1 with fail
  have hk1 : Kp (fun _ => False) w ((((w.alloc (.cells (treeC (.slice (some ⟨rb, 0, none⟩) 1 1)) 111)).alloc (.cells #[sv] 127)).alloc (.cells (optC m a) 137)).alloc (.cells zeroC 123)) := ((((Kp.refl _ w).alloc _).alloc _).alloc _).alloc _
  have hS1 : PrS w.heap.size (w.heap.size + 1) (w.heap.size + 2) (treeC (.slice (some ⟨rb, 0, none⟩) 1 1)) sv (optC m a) ((((w.alloc (.cells (treeC (.slice (some ⟨rb, 0, none⟩) 1 1)) 111)).alloc (.cells #[sv] 127)).alloc (.cells (optC m a) 137)).alloc (.cells zeroC 123)) := by
    refine ⟨?_, ?_, ?_⟩
    · rw [Below.heap_alloc _ _ _ (by simp; omega), Below.heap_alloc _ _ _ (by simp; omega), Below.heap_alloc _ _ _ (by simp)]; exact heap_alloc_new _ _
    · rw [Below.heap_alloc _ _ _ (by simp), Below.heap_alloc _ _ _ (by simp)]; exact (by have := heap_alloc_new (w.alloc (.cells (treeC (.slice (some ⟨rb, 0, none⟩) 1 1)) 111)) (.cells #[sv] 127); simpa using this)
    · rw [Below.heap_alloc _ _ _ (by simp)]; exact (by have := heap_alloc_new ((w.alloc (.cells (treeC (.slice (some ⟨rb, 0, none⟩) 1 1)) 111)).alloc (.cells #[sv] 127)) (.cells (optC m a) 137); simpa using this)
  have hz1 : ((((w.alloc (.cells (treeC (.slice (some ⟨rb, 0, none⟩) 1 1)) 111)).alloc (.cells #[sv] 127)).alloc (.cells (optC m a) 137)).alloc (.cells zeroC 123)).heap[w.heap.size + 3]? = some (.cells zeroC 123) := by
    have := heap_alloc_new (((w.alloc (.cells (treeC (.slice (some ⟨rb, 0, none⟩) 1 1)) 111)).alloc (.cells #[sv] 127)).alloc (.cells (optC m a) 137)) (.cells zeroC 123)
    simpa using this
  have hsz : ((((w.alloc (.cells (treeC (.slice (some ⟨rb, 0, none⟩) 1 1)) 111)).alloc (.cells #[sv] 127)).alloc (.cells (optC m a) 137)).alloc (.cells zeroC 123)).heap.size = w.heap.size + 4 := by simp
  simp only [treeC, optC, zeroC] at hk1 hS1 hz1 hsz
  generalize ((((w.alloc (.cells #[.slice none 0 0, .pointer none, .slice none 0 0, .slice (some ⟨rb, 0, none⟩) 1 1, .string ⟨#[]⟩, .int .i32 0, .int .i32 0, .int .i32 0, .slice none 0 0, .map none, .map none, .map none, .slice none 0 0, .slice none 0 0] 111)).alloc (.cells #[sv] 127)).alloc (.cells #[.pointer none, .slice none 0 0, .map none, .int .i64 0, .int .u32 0, .int .u16 0, .bool m, .bool a, .int .u8 0, .bool false, .int .u8 0, .bool false, .int .u8 0] 137)).alloc (.cells #[.slice none 0 0, .slice none 0 0, .slice none 0 0, .slice none 0 0, .int .u32 0, .slice none 0 0, .int .i64 0, .int .i64 0, .int .i64 0, .int .i64 0, .int .i64 0, .int .i64 0, .bool false, .int .i64 0, .bool false] 123)) = w1 at *
  generalize hn0 : w.heap.size = n0 at *
  have HN0 := Lib.hid hn0
  have HS1 := Lib.hid hS1
  have HZ1 := Lib.hid hz1
  have HK1 := Lib.hid hk1
  have HRB := Lib.hid hR
  have HT := Lib.hid hT
  have HRULE := Lib.hid hrule
  clear hn0 hS1 hz1 hk1 hR hT hrule
  go_cut [7] from 8 to 22 (fun t7 wr => ∃ g k, t7 = .pointer (some ⟨g, 0, none⟩) ∧ n0 + 4 ≤ g ∧ wr.heap[g]? = some (.cells (prC m a sv k) 158) ∧ Kp (fun _ => False) w1 wr)
  case first => as_aux_lemma =>
    refine wp_region_held_drew (S := PrS n0 (n0 + 1) (n0 + 2) (treeC (.slice (some ⟨rb, 0, none⟩) 1 1)) sv (optC m a)) (by kernel_rfl) HS1.out (fun hHeld => ?_)
    refine wpAnyH_take (i := 0) (oi := ⟨some 11, _, _, _, _, _⟩) (v := .agg (optC m a)) rfl (by kernel_rfl) (by kernel_rfl) (by kernel_rfl) (fun _ _ _ h => h) (yields_blk (by kernel_rfl) 137 (.tmp 5) rfl (n0 + 2) rfl (optC m a) 137 (fun w h => h.2.2) Tryz.underlying137 size137) (by assumption) ?_
    simp only [Act.put, List.setIfInBounds_toArray, List.set_cons_zero, List.set_cons_succ]
    refine wpAnyH_take (i := 1) (oi := ⟨some 12, _, _, _, _, _⟩) (v := .agg #[sv]) rfl (by kernel_rfl) (by kernel_rfl) (by kernel_rfl) (fun _ _ _ h => h) (yields_blk (by kernel_rfl) 127 (.tmp 4) rfl (n0 + 1) rfl #[sv] 127 (fun w h => h.2.1) Tryz.underlying127 size127) (by assumption) ?_
    simp only [Act.put, List.setIfInBounds_toArray, List.set_cons_zero, List.set_cons_succ]
    refine wpAnyH_take (i := 2) (oi := ⟨some 13, _, _, _, _, _⟩) (v := .pointer (some ⟨n0, 2, none⟩)) rfl (by kernel_rfl) (by kernel_rfl) (by kernel_rfl) (fun _ _ _ h => h) (Or.inl ⟨by kernel_rfl, ?_⟩) (by assumption) ?_
    · (intro w' hS; have z1 : w'.cell? ⟨n0, 2, none⟩ = some (.slice none 0 0) := by simp [World.cell?, hS.1, treeC]
       have z2 : w'.cell? ⟨n0 + 2, 0, none⟩ = some (.pointer none) := by simp [World.cell?, hS.2.2, optC]
       have z3 : w'.cell? ⟨n0 + 2, 1, none⟩ = some (.slice none 0 0) := by simp [World.cell?, hS.2.2, optC]
       have z4 : w'.cell? ⟨n0 + 2, 7, none⟩ = some (.bool a) := by simp [World.cell?, hS.2.2, optC]
       clear hS; go_simp)
    simp only [Act.put, List.setIfInBounds_toArray, List.set_cons_zero, List.set_cons_succ]
    refine wpAnyH_take (i := 3) (oi := ⟨some 14, _, _, _, _, _⟩) (v := .slice none 0 0) rfl (by kernel_rfl) (by kernel_rfl) (by kernel_rfl) (fun _ _ _ h => h) (Or.inl ⟨by kernel_rfl, ?_⟩) (by assumption) ?_
    · (intro w' hS; have z1 : w'.cell? ⟨n0, 2, none⟩ = some (.slice none 0 0) := by simp [World.cell?, hS.1, treeC]
       have z2 : w'.cell? ⟨n0 + 2, 0, none⟩ = some (.pointer none) := by simp [World.cell?, hS.2.2, optC]
       have z3 : w'.cell? ⟨n0 + 2, 1, none⟩ = some (.slice none 0 0) := by simp [World.cell?, hS.2.2, optC]
       have z4 : w'.cell? ⟨n0 + 2, 7, none⟩ = some (.bool a) := by simp [World.cell?, hS.2.2, optC]
       clear hS; go_simp)
    simp only [Act.put, List.setIfInBounds_toArray, List.set_cons_zero, List.set_cons_succ]
    refine wpAnyH_take (i := 4) (oi := ⟨some 15, _, _, _, _, _⟩) (v := .pointer (some ⟨n0 + 2, 0, none⟩)) rfl (by kernel_rfl) (by kernel_rfl) (by kernel_rfl) (fun _ _ _ h => h) (Or.inl ⟨by kernel_rfl, ?_⟩) (by assumption) ?_
    · (intro w' hS; have z1 : w'.cell? ⟨n0, 2, none⟩ = some (.slice none 0 0) := by simp [World.cell?, hS.1, treeC]
       have z2 : w'.cell? ⟨n0 + 2, 0, none⟩ = some (.pointer none) := by simp [World.cell?, hS.2.2, optC]
       have z3 : w'.cell? ⟨n0 + 2, 1, none⟩ = some (.slice none 0 0) := by simp [World.cell?, hS.2.2, optC]
       have z4 : w'.cell? ⟨n0 + 2, 7, none⟩ = some (.bool a) := by simp [World.cell?, hS.2.2, optC]
       clear hS; go_simp)
    simp only [Act.put, List.setIfInBounds_toArray, List.set_cons_zero, List.set_cons_succ]
    refine wpAnyH_take (i := 5) (oi := ⟨some 16, _, _, _, _, _⟩) (v := .pointer none) rfl (by kernel_rfl) (by kernel_rfl) (by kernel_rfl) (fun _ _ _ h => h) (Or.inl ⟨by kernel_rfl, ?_⟩) (by assumption) ?_
    · (intro w' hS; have z1 : w'.cell? ⟨n0, 2, none⟩ = some (.slice none 0 0) := by simp [World.cell?, hS.1, treeC]
       have z2 : w'.cell? ⟨n0 + 2, 0, none⟩ = some (.pointer none) := by simp [World.cell?, hS.2.2, optC]
       have z3 : w'.cell? ⟨n0 + 2, 1, none⟩ = some (.slice none 0 0) := by simp [World.cell?, hS.2.2, optC]
       have z4 : w'.cell? ⟨n0 + 2, 7, none⟩ = some (.bool a) := by simp [World.cell?, hS.2.2, optC]
       clear hS; go_simp)
    simp only [Act.put, List.setIfInBounds_toArray, List.set_cons_zero, List.set_cons_succ]
    refine wpAnyH_take (i := 6) (oi := ⟨some 17, _, _, _, _, _⟩) (v := .pointer (some ⟨n0 + 2, 1, none⟩)) rfl (by kernel_rfl) (by kernel_rfl) (by kernel_rfl) (fun _ _ _ h => h) (Or.inl ⟨by kernel_rfl, ?_⟩) (by assumption) ?_
    · (intro w' hS; have z1 : w'.cell? ⟨n0, 2, none⟩ = some (.slice none 0 0) := by simp [World.cell?, hS.1, treeC]
       have z2 : w'.cell? ⟨n0 + 2, 0, none⟩ = some (.pointer none) := by simp [World.cell?, hS.2.2, optC]
       have z3 : w'.cell? ⟨n0 + 2, 1, none⟩ = some (.slice none 0 0) := by simp [World.cell?, hS.2.2, optC]
       have z4 : w'.cell? ⟨n0 + 2, 7, none⟩ = some (.bool a) := by simp [World.cell?, hS.2.2, optC]
       clear hS; go_simp)
    simp only [Act.put, List.setIfInBounds_toArray, List.set_cons_zero, List.set_cons_succ]
    refine wpAnyH_take (i := 7) (oi := ⟨some 18, _, _, _, _, _⟩) (v := .slice none 0 0) rfl (by kernel_rfl) (by kernel_rfl) (by kernel_rfl) (fun _ _ _ h => h) (Or.inl ⟨by kernel_rfl, ?_⟩) (by assumption) ?_
    · (intro w' hS; have z1 : w'.cell? ⟨n0, 2, none⟩ = some (.slice none 0 0) := by simp [World.cell?, hS.1, treeC]
       have z2 : w'.cell? ⟨n0 + 2, 0, none⟩ = some (.pointer none) := by simp [World.cell?, hS.2.2, optC]
       have z3 : w'.cell? ⟨n0 + 2, 1, none⟩ = some (.slice none 0 0) := by simp [World.cell?, hS.2.2, optC]
       have z4 : w'.cell? ⟨n0 + 2, 7, none⟩ = some (.bool a) := by simp [World.cell?, hS.2.2, optC]
       clear hS; go_simp)
    simp only [Act.put, List.setIfInBounds_toArray, List.set_cons_zero, List.set_cons_succ]
    refine wpAnyH_take (i := 8) (oi := ⟨some 19, _, _, _, _, _⟩) (v := .pointer (some ⟨n0 + 2, 7, none⟩)) rfl (by kernel_rfl) (by kernel_rfl) (by kernel_rfl) (fun _ _ _ h => h) (Or.inl ⟨by kernel_rfl, ?_⟩) (by assumption) ?_
    · (intro w' hS; have z1 : w'.cell? ⟨n0, 2, none⟩ = some (.slice none 0 0) := by simp [World.cell?, hS.1, treeC]
       have z2 : w'.cell? ⟨n0 + 2, 0, none⟩ = some (.pointer none) := by simp [World.cell?, hS.2.2, optC]
       have z3 : w'.cell? ⟨n0 + 2, 1, none⟩ = some (.slice none 0 0) := by simp [World.cell?, hS.2.2, optC]
       have z4 : w'.cell? ⟨n0 + 2, 7, none⟩ = some (.bool a) := by simp [World.cell?, hS.2.2, optC]
       clear hS; go_simp)
    simp only [Act.put, List.setIfInBounds_toArray, List.set_cons_zero, List.set_cons_succ]
    refine wpAnyH_take (i := 9) (oi := ⟨some 20, _, _, _, _, _⟩) (v := .bool a) rfl (by kernel_rfl) (by kernel_rfl) (by kernel_rfl) (fun _ _ _ h => h) (Or.inl ⟨by kernel_rfl, ?_⟩) (by assumption) ?_
    · (intro w' hS; have z1 : w'.cell? ⟨n0, 2, none⟩ = some (.slice none 0 0) := by simp [World.cell?, hS.1, treeC]
       have z2 : w'.cell? ⟨n0 + 2, 0, none⟩ = some (.pointer none) := by simp [World.cell?, hS.2.2, optC]
       have z3 : w'.cell? ⟨n0 + 2, 1, none⟩ = some (.slice none 0 0) := by simp [World.cell?, hS.2.2, optC]
       have z4 : w'.cell? ⟨n0 + 2, 7, none⟩ = some (.bool a) := by simp [World.cell?, hS.2.2, optC]
       clear hS; go_simp)
    simp only [Act.put, List.setIfInBounds_toArray, List.set_cons_zero, List.set_cons_succ]
    refine wpAnyH_ready (rs := [10, 12]) (by kernel_rfl) (by simp) ?_
    refine AllReadyH.cons (o := ⟨some 21, _, _, _, _, _⟩) rfl (fun K hK => ?_) (AllReadyH.cons (o := ⟨some 7, _, _, _, _, _⟩) rfl (fun K hK => ?_) AllReadyH.nil)
    · go_simp
      refine (MakeChunkBuilder_any a _).mono ?_
      rintro e wB ⟨k, rfl, hkB⟩
      have hkB' : Kp (fun _ => False) w1 wB := ((Kp.refl _ w1).drew).trans hkB
      have hsB := hkB'.size
      refine hK.out _ _ (HS1.out.kf hkB') (fun hHeld2 => ?_)
      clear hHeld
      try simp only [Act.put, List.setIfInBounds_toArray, List.set_cons_zero, List.set_cons_succ]
      refine wpAnyH_take (i := 11) (oi := ⟨some 22, _, _, _, _, _⟩) (v := .agg (prC m a sv k)) rfl (by kernel_rfl) (by kernel_rfl) (by kernel_rfl) (fun _ _ _ h => h) (yields_build (by kernel_rfl) 158 [(0, .tmp 11), (1, .tmp 12), (2, .tmp 14), (7, .tmp 21)] rfl (prC m a sv k) [(0, .agg (optC m a)), (1, .agg #[sv]), (2, .slice none 0 0), (7, .agg (mcbC k a))] rfl (built158 m a sv k)) (by assumption) ?_
      try simp only [Act.put, List.setIfInBounds_toArray, List.set_cons_zero, List.set_cons_succ]
      refine wpAnyH_ready (rs := [12]) (by kernel_rfl) (by simp) ?_
      refine AllReadyH.cons (o := ⟨some 7, _, _, _, _, _⟩) rfl (fun K hK => ?_) AllReadyH.nil
      go_simp
      refine hK.out _ _ (hHeld2.kf ((Kp.refl _ wB).alloc _)) (fun hHeld3 => ?_)
      clear hHeld2
      try simp only [Act.put, List.setIfInBounds_toArray, List.set_cons_zero, List.set_cons_succ]
      refine wpAnyH_ready (rs := [13]) (by kernel_rfl) (by simp) ?_
      refine AllReadyH.cons (o := ⟨none, _, _, _, _, _⟩) rfl (fun K hK => ?_) AllReadyH.nil
      rw [if_pos (by kernel_rfl)]
      refine store_op 158 (.tmp 7) (.tmp 22) rfl wB.heap.size 43 158 size158 (prC m a sv k) rfl ⟨_, heap_alloc_new _ _, rfl⟩ rfl rfl (prC_one m a sv k hsv) ?_
      intro wD hbD hkD
      have hkE : Kp (fun _ => False) w1 wD := (hkB'.alloc _).trans' hkD (fun i hi e => by omega)
      refine hK.out _ _ (HS1.out.kf hkE) (fun hHeld4 => ?_)
      clear hHeld4 hHeld3
      try simp only [Act.put, List.setIfInBounds_toArray, List.set_cons_zero, List.set_cons_succ]
      refine wpAnyH_done (by kernel_rfl) ?_ _
      have HE : Hid (∃ g k, Value.pointer (some ⟨wB.heap.size, 0, none⟩) = .pointer (some ⟨g, 0, none⟩) ∧ n0 + 4 ≤ g ∧ wD.heap[g]? = some (.cells (prC m a sv k) 158) ∧ Kp (fun _ => False) w1 wD) := Lib.hid ⟨_, k, rfl, by omega, hbD, hkE⟩
      clear hbD hkD hkE
      go_wp2
      go_meet
      exact HE.out
    · go_simp
      refine hK.out _ _ (HS1.out.kf (((Kp.refl _ w1).drew).alloc _)) (fun hHeld2 => ?_)
      clear hHeld
      try simp only [Act.put, List.setIfInBounds_toArray, List.set_cons_zero, List.set_cons_succ]
      refine wpAnyH_ready (rs := [10]) (by kernel_rfl) (by simp) ?_
      refine AllReadyH.cons (o := ⟨some 21, _, _, _, _, _⟩) rfl (fun K hK => ?_) AllReadyH.nil
      go_simp
      refine (MakeChunkBuilder_any a _).mono ?_
      rintro e wB ⟨k, rfl, hkB⟩
      have hkB' : Kp (fun _ => False) w1 wB := (((Kp.refl _ w1).drew).alloc _).trans hkB
      have hsB := hkB'.size
      refine hK.out _ _ (HS1.out.kf hkB') (fun hHeld3 => ?_)
      clear hHeld2
      try simp only [Act.put, List.setIfInBounds_toArray, List.set_cons_zero, List.set_cons_succ]
      refine wpAnyH_take (i := 11) (oi := ⟨some 22, _, _, _, _, _⟩) (v := .agg (prC m a sv k)) rfl (by kernel_rfl) (by kernel_rfl) (by kernel_rfl) (fun _ _ _ h => h) (yields_build (by kernel_rfl) 158 [(0, .tmp 11), (1, .tmp 12), (2, .tmp 14), (7, .tmp 21)] rfl (prC m a sv k) [(0, .agg (optC m a)), (1, .agg #[sv]), (2, .slice none 0 0), (7, .agg (mcbC k a))] rfl (built158 m a sv k)) (by assumption) ?_
      try simp only [Act.put, List.setIfInBounds_toArray, List.set_cons_zero, List.set_cons_succ]
      refine wpAnyH_ready (rs := [13]) (by kernel_rfl) (by simp) ?_
      refine AllReadyH.cons (o := ⟨none, _, _, _, _, _⟩) rfl (fun K hK => ?_) AllReadyH.nil
      rw [if_pos (by kernel_rfl)]
      refine store_op 158 (.tmp 7) (.tmp 22) rfl (n0 + 4) 43 158 size158 (prC m a sv k) rfl ⟨_, (hkB.block (n0 + 4) (by simp [hsz]) (fun f => f)).trans (by have := heap_alloc_new w1.drew (.cells zero43 158); rw [show w1.drew.heap.size = n0 + 4 from hsz] at this; exact this), rfl⟩ rfl rfl (prC_one m a sv k hsv) ?_
      intro wD hbD hkD
      have hkE : Kp (fun _ => False) w1 wD := hkB'.trans' hkD (fun i hi e => by omega)
      refine hK.out _ _ (HS1.out.kf hkE) (fun hHeld4 => ?_)
      clear hHeld4 hHeld3
      try simp only [Act.put, List.setIfInBounds_toArray, List.set_cons_zero, List.set_cons_succ]
      refine wpAnyH_done (by kernel_rfl) ?_ _
      have HE : Hid (∃ g k, Value.pointer (some ⟨n0 + 4, 0, none⟩) = .pointer (some ⟨g, 0, none⟩) ∧ n0 + 4 ≤ g ∧ wD.heap[g]? = some (.cells (prC m a sv k) 158) ∧ Kp (fun _ => False) w1 wD) := Lib.hid ⟨_, k, rfl, by omega, hbD, hkE⟩
      clear hbD hkD hkE
      go_wp2
      go_meet
      exact HE.out
  case rest => as_aux_lemma =>
    obtain ⟨g, k, rfl, hg4, hgb, hkc⟩ := hcut
    have hS2 := HS1.out.kf hkc
    have hRc : wc.heap[rb]? = some (.cells #[.iface it (.pointer (some ⟨ir, 0, none⟩)), .int .i32 0] 85) := ((HK1.out.trans hkc).block rb (Array.getElem?_eq_some_iff.1 HRB.out).1 (fun f => f)).trans HRB.out
    have hPn : Pn F n0 wc g m a (.slice none 0 0) [] := by
      have hl := (Array.getElem?_eq_some_iff.1 hgb).1
      refine ⟨⟨by omega, ⟨_, hgb, rfl, rfl, rfl, rfl, rfl, rfl, rfl⟩, World.ownsRow_nil _ _ _ _, ⟨_, hgb, rfl, rfl⟩⟩, by omega, ?_⟩
      exact HT.out.kp (HK1.out.trans hkc) (fun _ f => f.elim)
    have f3 : wc.cell? ⟨n0, 3, none⟩ = some (.slice (some ⟨rb, 0, none⟩) 1 1) := by simp [World.cell?, hS2.1, treeC]
    have HS2 := Lib.hid hS2
    have HRC := Lib.hid hRc
    have HPN := Lib.hid hPn
    have HKC := Lib.hid (HK1.out.trans hkc)
    have HZ2 : Hid (wc.heap[n0 + 3]? = some (.cells zeroC 123)) := Lib.hid ((hkc.block (n0 + 3) (by omega) (fun f => f)).trans HZ1.out)
    have hwc : n0 + 4 ≤ wc.heap.size := by have := hkc.size; omega
    clear hS2 hRc hPn hkc hgb
    have HKA : Hid (Kp (fun _ => False) w (wc.alloc (.cells #[.iface it (.pointer (some ⟨ir, 0, none⟩)), .int .i32 0] 85))) := Lib.hid (HKC.out.alloc _)
    have HPA : Hid (Pn F n0 (wc.alloc (.cells #[.iface it (.pointer (some ⟨ir, 0, none⟩)), .int .i32 0] 85)) g m a (.slice none 0 0) []) := Lib.hid (HPN.out.kp ((Kp.refl _ wc).alloc _))
    have r0 : wc.cell? ⟨rb, 0, none⟩ = some (.iface it (.pointer (some ⟨ir, 0, none⟩))) := by simp [World.cell?, HRC.out]
    have r1 : wc.cell? ⟨rb, 1, none⟩ = some (.int .i32 0) := by simp [World.cell?, HRC.out]
    go_wp2
    refine wp_loop_rounds 2 ?_
    rw [rounds_succ]
    go_wp2_with (go_at_call 51; refine (HRULE.out g (.slice none 0 0) _ HKA.out HPA.out).mono ?_)
    rintro e w9 ⟨rfl, v9, hp9, hs9⟩
    have hkS : Kp (fun k => k = g) (wc.alloc (.cells #[.iface it (.pointer (some ⟨ir, 0, none⟩)), .int .i32 0] 85)) w9 := hs9.kp.mono fun k _ h => h.elim id (fun e => by cases e)
    have hk9 : Kp (fun k => k = g) wc w9 := (((Kp.refl (fun k => k = g) wc).alloc _)).trans hkS
    have hS9 : PrS n0 (n0 + 1) (n0 + 2) (treeC (.slice (some ⟨rb, 0, none⟩) 1 1)) sv (optC m a) w9 := HS2.out.kp hk9 (fun e => by omega) (fun e => by omega) (fun e => by omega)
    have hz9 : w9.heap[n0 + 3]? = some (.cells zeroC 123) := (hk9.block (n0 + 3) (by omega) (fun e => by omega)).trans HZ2.out
    have HO9 : Hid (∀ k, v9.ownBlock = some k → n0 + 4 ≤ k) := Lib.hid fun k hk => by
      rcases hs9.own k hk with h | h
      · cases h
      · have := h; simp at this; omega
    have HW9 : Hid (Kp (fun _ => False) w w9) := Lib.hid (HKC.out.trans' hk9 (fun k hk e => by have := HN0.out; omega))
    obtain ⟨cs9, hb9, h17, h18⟩ := hp9.pr.nots
    have c17 : w9.cell? ⟨g, 17, none⟩ = some (.slice none 0 0) := by simp [World.cell?, hb9, h17]
    have c18 : w9.cell? ⟨g, 18, none⟩ = some (.slice none 0 0) := by simp [World.cell?, hb9, h18]
    have c8 : w9.cell? ⟨n0 + 1 + 1, 8, none⟩ = some (.int .u8 0) := by simp [World.cell?, hS9.2.2, optC]
    have c15 := hp9.pr.f.2.2.2.2.2.1
    have hl9 : n0 + 4 ≤ w9.heap.size := by have := hk9.size; omega
    obtain ⟨A9, k9, d9, rfl⟩ := own_slice hp9.pr.own
    have HP9 := Lib.hid hp9
    have HZ9 := Lib.hid hz9
    clear hkS hk9 hs9 hS9 hp9 hb9 h17 h18 hz9 f3 r0 r1
    go_wp2
    rw [rounds_succ]
    go_wp2_with (refine store_lit 123 (.tmp 10) (.tmp 39) rfl rfl w9.heap.size 15 123 size123 (outC (.slice A9 k9 d9)) rfl rfl rfl (outC_one _ _ _) ⟨_, heap_alloc_new _ _, rfl⟩ ?_)
    intro wx hbx hkx
    have hkX : Kp (fun _ => False) w9 wx := ((Kp.refl (fun _ => False) w9).alloc _).trans' hkx (fun i hi e => by omega)
    have c8x : wx.cell? ⟨n0 + 1 + 1, 8, none⟩ = some (.int .u8 0) := by rw [World.cell?_of_block (w := w9) (hkX.block (n0 + 1 + 1) (by omega) (fun f => f))]; exact c8
    have HBX := Lib.hid hbx
    have HKX := Lib.hid hkX
    have HZX : Hid (wx.heap[n0 + 1 + 1 + 1]? = some (.cells zeroC 123)) := Lib.hid ((hkX.block (n0 + 3) (by omega) (fun f => f)).trans HZ9.out)
    clear c15 c17 c18 c8 hkx hbx hkX
    go_wp2_with (first | (refine load_list 123 (.tmp 10) rfl rfl w9.heap.size 15 123 (outC (.slice A9 k9 d9)) Tryz.underlying123 size123 HBX.out rfl rfl ?_) | (refine store_lit 123 (.tmp 6) (.tmp 48) rfl rfl (n0 + 1 + 1 + 1) 15 123 size123 (outC (.slice A9 k9 d9)) rfl rfl rfl (outC_one _ _ _) ⟨_, HZX.out, rfl⟩ ?_))
    intro wy hby hky
    have HY : Hid (Kp (fun _ => False) w wy) := Lib.hid ((HW9.out.trans HKX.out).trans' hky (fun i hi e => by have := HN0.out; omega))
    have HOY : Hid (wy.ownsRow w.heap.size 5 1 (.slice A9 k9 d9) text.length (bys text)) := Lib.hid (by
      rw [HN0.out]
      exact own_kp (own_kp HP9.out.pr.own HKX.out (fun _ _ f => f)) hky (fun k hk e => by have := HO9.out k hk; omega))
    have HBY := Lib.hid hby
    clear hby hky c8x
    go_wp2
    refine bodyPost_ret (v := .agg (outC (.slice A9 k9 d9))) ?_ rfl ⟨_, rfl, HOY.out, HY.out⟩
    have := load_blk (n0 + 1 + 1 + 1) 123 123 _ HBY.out Tryz.underlying123 size123
    simp [results, Tryz.results40, asAddr, this]
end Go.Proofs.YtkaejhdncohgpaaGreatFmt

/- Walk: impl.printed at one rule. -/
namespace Go.Proofs.YtkaejhdncohgpaaGreatFmt
set_option linter.all false
open Go.RowKit Go.Lib
set_option maxRecDepth 100000
set_option maxHeartbeats 4000000
set_option linter.unusedSimpArgs false

/-- What the printer does at a rule, from world w on: a printer that lies behind w prints text. -/
def RuleC (F : Go.Stop.Interp) (it ir : Nat) (m a : Bool) (text : List UInt8) (w : World) : Prop := ∀ (w0 : World) (g : Nat) (v : Value) (w' : World), Kp (fun _ => False) w w0 → Kp (fun _ => False) w0 w' → Pn F w0.heap.size w' g m a v [] →
  Calls Tryz.prog 51 #[.pointer (some ⟨g, 0, none⟩), .agg #[.iface it (.pointer (some ⟨ir, 0, none⟩)), .int .i32 0], .int .i32 0, .bool false] w' fun e w'' => e = .returned (.tuple #[]) ∧ Wr F w0.heap.size g m a v w' text w''

theorem TbG.up {F : Go.Stop.Interp} {G G' : Nat} {w : World} (h : TbG F G w) (hG : G ≤ G') : TbG F G' w := by
  obtain ⟨W0, h1, h2⟩ := h
  exact ⟨W0, Nat.le_trans h1 hG, h2⟩
/-- Bytes that lie in memory, as a string. -/
theorem conv_own {w : World} {B : Nat} {v : Value} {l : List UInt8} (h : w.ownsRow B 5 1 v l.length (bys l)) : (convert 34 9 v).run Tryz.prog w = .ok (.string (bstr l)) w := by
  rcases h.2 with ⟨rfl, h0⟩ | ⟨g, cap, cur, rfl, -⟩
  · obtain rfl : l = [] := by simpa using h0
    rw [run_convert_bytes_string _ 34 9 5 _ _ _ Tryz.underlying34 Tryz.underlying5 Tryz.underlying9]
    rfl
  · rw [run_convert_bytes_string _ 34 9 5 _ _ _ Tryz.underlying34 Tryz.underlying5 Tryz.underlying9, run_bytesToString _ _ _ _ (l.map fun b => (b.toNat : Int)) ?_, foldl_push]
    · congr 2
      unfold bstr
      rw [show (ByteArray.empty.data : Array UInt8) = #[] from rfl, Array.empty_append, List.map_map]
      congr 1
      congr 1
      conv => rhs; rw [← List.map_id l]
      apply List.map_congr_left
      intro b _
      simp
    · have := run_loadCells_list (P := Tryz.prog) w ⟨g, 0, none⟩ (bys l) (fun j u hj => h.cells rfl j u hj)
      rw [bys_length] at this
      simpa [bys, Function.comp_def] using this
theorem field123 (A : Option Addr) (k c : Nat) (w : World) : (Instr.field 123 (.agg (outC (.slice A k c))) 0).run Tryz.prog w = .ok (.slice A k c) w := by kernel_rfl
theorem built137 (m a : Bool) : Tryz.prog.built 137 [(6, .bool m), (7, .bool a)] = some (optC m a) := by kernel_rfl
theorem printed_any (F : Go.Stop.Interp) (m a : Bool) (it ir : Nat) (text : List UInt8) (w : World) (hT : TbG F w.heap.size w) (hR : RuleC F it ir m a text w) :
    Calls Tryz.prog 27 #[.iface it (.pointer (some ⟨ir, 0, none⟩)), .bool m, .bool a] w fun e w' => e = .returned (.string (bstr text)) ∧ Kp (fun _ => False) w w' := by
  go_enter Tryz.func27, Tryz.ntmps27
  go_upto_region 2 with fail
  have hk1 : Kp (fun _ => False) w ((w.alloc (.cells #[.iface it (.pointer (some ⟨ir, 0, none⟩)), .int .i32 0] 85)).alloc (.cells (treeC (.slice (some ⟨w.heap.size, 0, none⟩) 1 1)) 111)) := ((Kp.refl _ w).alloc _).alloc _
  have hS1 : ((w.alloc (.cells #[.iface it (.pointer (some ⟨ir, 0, none⟩)), .int .i32 0] 85)).alloc (.cells (treeC (.slice (some ⟨w.heap.size, 0, none⟩) 1 1)) 111)).heap[w.heap.size + 1]? = some (.cells (treeC (.slice (some ⟨w.heap.size, 0, none⟩) 1 1)) 111) := by
    have := heap_alloc_new (w.alloc (.cells #[.iface it (.pointer (some ⟨ir, 0, none⟩)), .int .i32 0] 85)) (.cells (treeC (.slice (some ⟨w.heap.size, 0, none⟩) 1 1)) 111)
    simpa using this
  have hr1 : ((w.alloc (.cells #[.iface it (.pointer (some ⟨ir, 0, none⟩)), .int .i32 0] 85)).alloc (.cells (treeC (.slice (some ⟨w.heap.size, 0, none⟩) 1 1)) 111)).heap[w.heap.size]? = some (.cells #[.iface it (.pointer (some ⟨ir, 0, none⟩)), .int .i32 0] 85) := by
    rw [Below.heap_alloc _ _ _ (by simp)]; exact heap_alloc_new _ _
  simp only [treeC] at hk1 hS1 hr1
  generalize ((w.alloc (.cells #[.iface it (.pointer (some ⟨ir, 0, none⟩)), .int .i32 0] 85)).alloc (.cells #[.slice none 0 0, .pointer none, .slice none 0 0, .slice (some ⟨w.heap.size, 0, none⟩) 1 1, .string ⟨#[]⟩, .int .i32 0, .int .i32 0, .int .i32 0, .slice none 0 0, .map none, .map none, .map none, .slice none 0 0, .slice none 0 0] 111)) = w1 at *
  have HS1 : Hid (w1.heap[w.heap.size + 1]? = some (.cells (treeC (.slice (some ⟨w.heap.size, 0, none⟩) 1 1)) 111)) := Lib.hid hS1
  have HR1 := Lib.hid hr1
  have HK1 := Lib.hid hk1
  have HT := Lib.hid hT
  have HR := Lib.hid hR
  clear hk1 hS1 hr1 hT hR
  refine wp_region_held_drew (S := fun w' => w'.heap[w.heap.size + 1]? = some (.cells (treeC (.slice (some ⟨w.heap.size, 0, none⟩) 1 1)) 111)) (by kernel_rfl) HS1.out (fun hHeld => ?_)
  refine wpAnyH_take (i := 0) (oi := ⟨some 12, _, _, _, _, _⟩) (v := .agg (treeC (.slice (some ⟨w.heap.size, 0, none⟩) 1 1))) rfl (by kernel_rfl) (by kernel_rfl) (by kernel_rfl) (fun _ _ _ h => h) (yields_blk (by kernel_rfl) 111 (.tmp 7) rfl (w.heap.size + 1) rfl (treeC (.slice (some ⟨w.heap.size, 0, none⟩) 1 1)) 111 (fun w h => h) Tryz.underlying111 size111) (by assumption) ?_
  try simp only [Act.put, List.setIfInBounds_toArray, List.set_cons_zero, List.set_cons_succ]
  refine wpAnyH_take (i := 2) (oi := ⟨some 14, _, _, _, _, _⟩) (v := .bool m) rfl (by kernel_rfl) (by kernel_rfl) (by kernel_rfl) (fun _ _ _ h => h) (Or.inl ⟨by kernel_rfl, ?_⟩) (by assumption) ?_
  · (intro w' hS; clear hS; go_simp)
  try simp only [Act.put, List.setIfInBounds_toArray, List.set_cons_zero, List.set_cons_succ]
  refine wpAnyH_take (i := 3) (oi := ⟨some 15, _, _, _, _, _⟩) (v := .bool a) rfl (by kernel_rfl) (by kernel_rfl) (by kernel_rfl) (fun _ _ _ h => h) (Or.inl ⟨by kernel_rfl, ?_⟩) (by assumption) ?_
  · (intro w' hS; clear hS; go_simp)
  try simp only [Act.put, List.setIfInBounds_toArray, List.set_cons_zero, List.set_cons_succ]
  refine wpAnyH_take (i := 4) (oi := ⟨some 16, _, _, _, _, _⟩) (v := .agg (optC m a)) rfl (by kernel_rfl) (by kernel_rfl) (by kernel_rfl) (fun _ _ _ h => h) (yields_build (by kernel_rfl) 137 [(6, .tmp 14), (7, .tmp 15)] rfl (optC m a) [(6, .bool m), (7, .bool a)] rfl (built137 m a)) (by assumption) ?_
  try simp only [Act.put, List.setIfInBounds_toArray, List.set_cons_zero, List.set_cons_succ]
  refine wpAnyH_ready (rs := [1]) (by kernel_rfl) (by simp) ?_
  refine AllReadyH.cons (o := ⟨some 13, _, _, _, _, _⟩) rfl (fun K hK => ?_) AllReadyH.nil
  go_simp
  refine (NewSymbolMap_any _).mono ?_
  rintro e w2 ⟨⟨sv, rfl, hsv⟩, hk2⟩
  have hk2' : Kp (fun _ => False) w1 w2 := ((Kp.refl _ w1).drew).trans hk2
  have hin := (Array.getElem?_eq_some_iff.1 HS1.out).1
  have hS2 : w2.heap[w.heap.size + 1]? = some (.cells (treeC (.slice (some ⟨w.heap.size, 0, none⟩) 1 1)) 111) := (hk2'.block _ hin (fun f => f)).trans HS1.out
  refine hK.out _ _ hS2 (fun hHeld2 => ?_)
  clear hHeld hK
  try simp only [Act.put, List.setIfInBounds_toArray, List.set_cons_zero, List.set_cons_succ]
  refine wpAnyH_ready (rs := [5]) (by kernel_rfl) (by simp) ?_
  refine AllReadyH.cons (o := ⟨some 17, _, _, _, _, _⟩) rfl (fun K hK => ?_) AllReadyH.nil
  go_simp
  have hR2 : w2.heap[w.heap.size]? = some (.cells #[.iface it (.pointer (some ⟨ir, 0, none⟩)), .int .i32 0] 85) := (hk2'.block _ (Array.getElem?_eq_some_iff.1 HR1.out).1 (fun f => f)).trans HR1.out
  have hw2 := HK1.out.trans hk2'
  have hT2 : TbG F w2.heap.size w2 := (HT.out.kp hw2 (fun _ f => f.elim)).up hw2.size
  refine (Print_any F m a it ir w.heap.size text sv hsv w2 hT2 hR2 (fun g v w' hk hp => HR.out w2 g v w' hw2 hk hp)).mono ?_
  rintro e w3 ⟨v3, rfl, ho3, hk3⟩
  have hS3 : w3.heap[w.heap.size + 1]? = some (.cells (treeC (.slice (some ⟨w.heap.size, 0, none⟩) 1 1)) 111) := (hk3.block _ (Array.getElem?_eq_some_iff.1 hS2).1 (fun f => f)).trans hS2
  have hc3 := conv_own ho3
  obtain ⟨A3, k3, c3, rfl⟩ := own_slice ho3
  have HK3 := Lib.hid (hw2.trans hk3)
  refine hK.out _ _ hS3 (fun hHeld3 => ?_)
  clear hHeld2 hK
  try simp only [Act.put, List.setIfInBounds_toArray, List.set_cons_zero, List.set_cons_succ]
  refine wpAnyH_take (i := 6) (oi := ⟨some 18, _, _, _, _, _⟩) (v := .slice A3 k3 c3) rfl (by kernel_rfl) (by kernel_rfl) (by kernel_rfl) (fun _ _ _ h => h) (Or.inl ⟨by kernel_rfl, ?_⟩) (by assumption) ?_
  · (intro w' hS; clear hS; go_simp; rw [field123]; rfl)
  try simp only [Act.put, List.setIfInBounds_toArray, List.set_cons_zero, List.set_cons_succ]
  refine wpAnyH_ready (rs := [7]) (by kernel_rfl) (by simp) ?_
  refine AllReadyH.cons (o := ⟨some 19, _, _, _, _, _⟩) rfl (fun K hK => ?_) AllReadyH.nil
  go_simp
  refine hK.out _ _ hS3 (fun hHeld4 => ?_)
  clear hHeld3 hK
  try simp only [Act.put, List.setIfInBounds_toArray, List.set_cons_zero, List.set_cons_succ]
  refine wpAnyH_take (i := 8) (oi := ⟨some 6, _, _, _, _, _⟩) (v := .string (bstr text)) rfl (by kernel_rfl) (by kernel_rfl) (by kernel_rfl) (fun _ _ _ h => h) (Or.inl ⟨by kernel_rfl, ?_⟩) (by assumption) ?_
  · (intro w' hS; clear hS; go_simp)
  try simp only [Act.put, List.setIfInBounds_toArray, List.set_cons_zero, List.set_cons_succ]
  refine wpAnyH_done (by kernel_rfl) ?_ _
  clear hHeld4 hc3 hS3 hS2 hR2
  go_wp2
  go_ret
  exact ⟨rfl, HK3.out⟩
end Go.Proofs.YtkaejhdncohgpaaGreatFmt
