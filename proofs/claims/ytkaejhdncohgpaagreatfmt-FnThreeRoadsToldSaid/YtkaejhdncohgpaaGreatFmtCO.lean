/- Walk: impl.At, impl.Declaration. -/
import Derived.Test.YtkaejhdncohgpaaGreatFmtM3
import Derived.Test.YtkaejhdncohgpaaGreatFmtCH
import Derived.Test.YtkaejhdncohgpaaGreatFmtCK
import Derived.Test.YtkaejhdncohgpaaGreatFmtLH
namespace Go.Proofs.YtkaejhdncohgpaaGreatFmt
set_option linter.all false
open Go.RowKit Go.Lib
set_option maxRecDepth 100000
set_option maxHeartbeats 4000000

/-- What impl.tokens makes of nodes. -/
def ToksC (v : Value) (tds : List TD) (w : World) : Prop := Calls Tryz.prog 26 #[v, .int .i64 0] w fun e w' => ∃ v' n, e = .returned (.tuple #[v', .int .i64 n]) ∧ RowAt w' (fun k => w.heap.size ≤ k ∧ k < w'.heap.size) v' tds ∧ Kp (fun _ => False) w w'

theorem At_any (F : Go.Stop.Interp) (uq : Bool) (s : ByteArray) (cs : List Int) (v : Value) (tds : List TD) (m a : Bool) (w : World) (hT : TbG F w.heap.size w) (hc : ∀ c ∈ cs, Scal c) (hs : s.data.toList = encs cs) (hv : ToksC v tds w) (hok : TsOk uq tds) (hK : ∀ G, TokC F uq G tds)
    (hb : 8 * s.size + costL tds + 2000 ≤ 140737488355328) :
    Calls Tryz.prog 11 #[.string s, v, .bool m, .bool a] w fun e w' => e = .returned (.string (bstr (atT m a cs tds))) ∧ Kp (fun _ => False) w w' := by
  have HV := Lib.hid hv
  have HT := Lib.hid hT
  have HOK := Lib.hid hok
  have HK := Lib.hid hK
  have HC := Lib.hid hc
  have HS := Lib.hid hs
  have HB := Lib.hid hb
  clear hv hT hok hK hc hs hb
  go_enter Tryz.func11, Tryz.ntmps11
  go_wp2_with (go_at_call 26; refine HV.out.mono ?_)
  rintro e w2 ⟨v2, n, rfl, hr2, hk2⟩
  have hP : Calls Tryz.prog 27 #[.iface 59 (.pointer (some ⟨w2.heap.size, 0, none⟩)), .bool m, .bool a] (w2.alloc (.cells #[.string s, v2, .slice none 0 0] 61)) fun e w' => e = .returned (.string (bstr (atT m a cs tds))) ∧ Kp (fun _ => False) (w2.alloc (.cells #[.string s, v2, .slice none 0 0] 61)) w' := by
    have hk3 : Kp (fun _ => False) w (w2.alloc (.cells #[.string s, v2, .slice none 0 0] 61)) := hk2.alloc _
    refine printed_any F m a 59 w2.heap.size _ _ ((HT.out.kp hk3 (fun _ f => f.elim)).up hk3.size) ?_
    intro w0 g v w' hk0 hk' hp
    have hall := ((Kp.refl (fun _ => False) w2).alloc (.cells #[.string s, v2, .slice none 0 0] 61)).trans (hk0.trans hk')
    have hlt : w2.heap.size < w0.heap.size := Nat.lt_of_lt_of_le (by simp) hk0.size
    have hR : w'.heap[w2.heap.size]? = some (.cells #[.string s, v2, .slice none 0 0] 61) := ((hk0.trans hk').block _ (by simp) (fun f => f)).trans (heap_alloc_new _ _)
    have hrow : RowAt w' (· < w0.heap.size) v2 tds := (hr2.kp (D := fun k => w.heap.size ≤ k ∧ k < w2.heap.size) hall (fun k hk => hk.2) (fun _ f => f.elim)).mono (fun k hk => by omega)
    have := rule_at F uq w0.heap.size g m a v [] w2.heap.size s cs v2 tds w' hp hlt hR HC.out HS.out hrow HOK.out (HK.out _) (by have := HB.out; simp only [List.length_nil]; omega)
    simpa only [List.nil_append] using this
  have HP := Lib.hid hP
  have HK2 := Lib.hid hk2
  obtain ⟨A2, k2, rfl, -⟩ := hr2.len
  clear hP hk2 hr2
  go_wp2_with (go_at_call 27; refine HP.out.mono ?_)
  rintro e w4 ⟨rfl, hk4⟩
  have HK4 : Hid (Kp (fun _ => False) w w4) := Lib.hid ((HK2.out.alloc _).trans hk4)
  clear hk4
  go_wp2
  go_ret
  exact ⟨rfl, HK4.out⟩
theorem Decl_any (F : Go.Stop.Interp) (uq : Bool) (s : ByteArray) (cs : List Int) (v : Value) (tds : List TD) (m a imp : Bool) (w : World) (hT : TbG F w.heap.size w) (hc : ∀ c ∈ cs, Scal c) (hs : s.data.toList = encs cs) (hv : ToksC v tds w) (hok : TsOk uq tds) (hK : ∀ G, TokC F uq G tds) (hn : (!m && true) = false ∨ NoCm tds)
    (hb : 8 * s.size + costL tds + 2000 ≤ 140737488355328) :
    Calls Tryz.prog 13 #[.string s, v, .bool imp, .bool m, .bool a] w fun e w' => e = .returned (.string (bstr (declT m a imp cs tds))) ∧ Kp (fun _ => False) w w' := by
  have HV := Lib.hid hv
  have HT := Lib.hid hT
  have HOK := Lib.hid hok
  have HK := Lib.hid hK
  have HC := Lib.hid hc
  have HS := Lib.hid hs
  have HB := Lib.hid hb
  have HN := Lib.hid hn
  clear hv hT hok hK hc hs hb hn
  go_enter Tryz.func13, Tryz.ntmps13
  go_wp2_with (go_at_call 26; refine HV.out.mono ?_)
  rintro e w2 ⟨v2, n, rfl, hr2, hk2⟩
  have hP : Calls Tryz.prog 27 #[.iface 65 (.pointer (some ⟨w2.heap.size, 0, none⟩)), .bool m, .bool a] (w2.alloc (.cells #[.string s, v2, .int .i32 0, .int .i32 0, .int .u16 0, .bool imp] 73)) fun e w' => e = .returned (.string (bstr (declT m a imp cs tds))) ∧ Kp (fun _ => False) (w2.alloc (.cells #[.string s, v2, .int .i32 0, .int .i32 0, .int .u16 0, .bool imp] 73)) w' := by
    have hk3 : Kp (fun _ => False) w (w2.alloc (.cells #[.string s, v2, .int .i32 0, .int .i32 0, .int .u16 0, .bool imp] 73)) := hk2.alloc _
    refine printed_any F m a 65 w2.heap.size _ _ ((HT.out.kp hk3 (fun _ f => f.elim)).up hk3.size) ?_
    intro w0 g v w' hk0 hk' hp
    have hall := ((Kp.refl (fun _ => False) w2).alloc (.cells #[.string s, v2, .int .i32 0, .int .i32 0, .int .u16 0, .bool imp] 73)).trans (hk0.trans hk')
    have hlt : w2.heap.size < w0.heap.size := Nat.lt_of_lt_of_le (by simp) hk0.size
    have hR : w'.heap[w2.heap.size]? = some (.cells #[.string s, v2, .int .i32 0, .int .i32 0, .int .u16 0, .bool imp] 73) := ((hk0.trans hk').block _ (by simp) (fun f => f)).trans (heap_alloc_new _ _)
    have hrow : RowAt w' (· < w0.heap.size) v2 tds := (hr2.kp (D := fun k => w.heap.size ≤ k ∧ k < w2.heap.size) hall (fun k hk => hk.2) (fun _ f => f.elim)).mono (fun k hk => by omega)
    have := rule_decl F uq w0.heap.size g m a v [] w2.heap.size s cs v2 tds _ _ _ imp w' hp hlt hR HC.out HS.out hrow HOK.out (HK.out _) HN.out (by have := HB.out; simp only [List.length_nil]; omega)
    simpa only [List.nil_append] using this
  have HP := Lib.hid hP
  have HK2 := Lib.hid hk2
  obtain ⟨A2, k2, rfl, -⟩ := hr2.len
  clear hP hk2 hr2
  go_wp2_with (go_at_call 27; refine HP.out.mono ?_)
  rintro e w4 ⟨rfl, hk4⟩
  have HK4 : Hid (Kp (fun _ => False) w w4) := Lib.hid ((HK2.out.alloc _).trans hk4)
  clear hk4
  go_wp2
  go_ret
  exact ⟨rfl, HK4.out⟩
end Go.Proofs.YtkaejhdncohgpaaGreatFmt
