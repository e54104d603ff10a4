/- The reference's lexer: next by its relation, comment where there is none, and Tokens. Condition: the text has at most 2^40 bytes. -/
import Derived.Test.YtkaejhdncohgpaaGreatFmtL9
import Derived.Deep.AppendLies
namespace Go.Proofs.YtkaejhdncohgpaaGreatFmt
set_option linter.all false
open Go.RowKit
set_option maxRecDepth 100000

theorem next_any (g : Nat) (s : ByteArray) (v : Value) (op : Bool) (K : Nat) (w : World) (l0 : Its) (h : At g s v w l0 op w) (hs : s.size ≤ 140737488355328) (hK : l0.length < K) (k : Int) (u : Nat) (id : Bool) (tx : List UInt8) (l' : Its) (o' : Bool) (hn : NextR K l0 op k u id tx l' o') :
    Calls Tryz.prog 48 #[.pointer (some ⟨g, 0, none⟩)] w fun e w' => e = .returned (tokV k 0 0 u id tx) ∧ Lo g s v w l' o' w' := by
  cases hn with
  | space => exact next_space g s v op K w l0 h hs hK ‹_›
  | quoted => exact next_quoted g s v op K w l0 h hs hK ‹_› k tx l' o' ‹quotM K _ _ _ _ = _›
  | hash => exact next_hash g s v op K w l0 h hs hK ‹_› ‹conts _ = true ∨ _› tx l' o' ‹nameM K _ _ _ = _›
  | num => exact next_num g s v op K w l0 h hs hK ‹pk l0 0 ≠ -1› ‹isSp _ = false› ‹pk l0 0 ≠ 34› ‹pk l0 0 ≠ 39› ‹pk l0 0 ≠ 35› ‹cnts _ _ _ = true› k u l' o' ‹numM K _ _ = _›
  | ident => exact next_ident g s v op K w l0 h hs hK ‹pk l0 0 ≠ -1› ‹isSp _ = false› ‹pk l0 0 ≠ 34› ‹pk l0 0 ≠ 39› ‹pk l0 0 ≠ 35› ‹cnts _ _ _ = false› ‹¬ (_ ∧ _)› ‹idents _ _ _ = true› tx l' o' ‹nameM K _ _ _ = _› (by simpa using ‹pk l' 0 ≠ 40›)
  | func => exact next_func g s v op K w l0 h hs hK ‹pk l0 0 ≠ -1› ‹isSp _ = false› ‹pk l0 0 ≠ 34› ‹pk l0 0 ≠ 39› ‹pk l0 0 ≠ 35› ‹cnts _ _ _ = false› ‹¬ (_ ∧ _)› ‹idents _ _ _ = true› tx _ o' ‹nameM K _ _ _ = _› ‹_› ‹isUrlB tx = false›
  | atk => exact next_at g s v op K w l0 h hs hK ‹_› ‹idents _ _ _ = true› tx l' o' ‹nameM K _ _ _ = _›
  | c41 => exact next_c41 g s v op K w l0 h hs hK ‹_›
  | c58 => exact next_c58 g s v op K w l0 h hs hK ‹_›
  | c59 => exact next_c59 g s v op K w l0 h hs hK ‹_›

theorem comment_none (g : Nat) (s : ByteArray) (v : Value) (op : Bool) (w : World) (l0 : Its) (HA : At g s v w l0 op w) (hs : s.size ≤ 140737488355328) (hc : ¬ (pk l0 0 = 47 ∧ pk l0 1 = 42)) :
    Calls Tryz.prog 47 #[.pointer (some ⟨g, 0, none⟩)] w fun e w' => e = .returned (.tuple #[]) ∧ w' = w := by
  have b : (pk l0 0 == 47) = true ∧ (pk l0 1 == 42) = false ∨ (pk l0 0 == 47) = false := by
    by_cases x1 : pk l0 0 = 47
    · exact .inl ⟨beq_t x1, beq_f fun x2 => hc ⟨x1, x2⟩⟩
    · exact .inr (beq_f x1)
  clear hc
  rcases b with ⟨b1, b2⟩ | b1
  all_goals
    go_enter Tryz.func47, Tryz.ntmps47
    go_wp2
    go_loopg [] 1 (fun k wr => k = 1 ∧ At g s v w l0 op wr ∧ wr = w)
    case atStart => exact ⟨rfl, HA, rfl⟩
    case round =>
      obtain ⟨rfl, HA, rfl⟩ := hrel
      go_wp2_with (first | (go_at_call 56; (with_reducible refine (peek0_at HA hs).mono ?_); rintro e w9 ⟨rfl, rfl⟩) | (go_at_call 56; (with_reducible refine (peek1_at HA hs).mono ?_); rintro e w9 ⟨rfl, rfl⟩))
      go_end0
      exact ⟨rfl, rfl⟩


def Tk.cells (t : Tk) : List Value := [.int .i64 t.k, .int .i64 t.st, .int .i64 t.en, .int .i64 t.un, .bool t.id, .string (bstr t.tx)]
def tcells (ts : List Tk) : List Value := ts.flatMap Tk.cells
theorem tcells_length (ts : List Tk) : (tcells ts).length = ts.length * 6 := by
  induction ts with
  | nil => rfl
  | cons t ts ih => simp only [tcells, List.flatMap_cons, List.length_append] at *; rw [ih]; simp [Tk.cells]; omega
theorem tcells_snoc (ts : List Tk) (t : Tk) : tcells (ts ++ [t]) = tcells ts ++ t.cells := by simp [tcells]

theorem info49 : (Tryz.prog.info? 49).map (fun i => (i.zero, i.size, i.bytes)) = some (some (.agg #[.int .i64 0, .int .i64 0, .int .i64 0, .int .i64 0, .bool false, .string ⟨#[]⟩]), 6, 56) := by kernel_rfl

theorem At.f2 {g : Nat} {s : ByteArray} {v : Value} {w0 wr : World} {l : Its} {o : Bool} (h : At g s v w0 l o wr) : wr.cell? ⟨g, 2, none⟩ = some v := by
  obtain ⟨q, h1, h2, h3, h4⟩ := h
  exact h3.out.f.2.2.1

theorem Lo.kp {g : Nat} {s : ByteArray} {v : Value} {w w' : World} {l : Its} {o : Bool} (h : Lo g s v w l o w') : Kp (fun k => k = g) w w' := by
  obtain ⟨q, h1, h2, h3, h4⟩ := h
  exact h4

theorem At.alloc {g : Nat} {s : ByteArray} {v : Value} {w0 wr : World} {l : Its} {o : Bool} (h : At g s v w0 l o wr) (x : Obj) : At g s v w0 l o (wr.alloc x) := by
  obtain ⟨q, h1, h2, h3, h4⟩ := h
  exact ⟨q, h1, h2, h3.out.kp ((Kp.refl (fun _ => False) wr).alloc x) (fun h => h), h4.out.alloc x⟩
theorem At.kp {g : Nat} {s : ByteArray} {v : Value} {w0 wr : World} {l : Its} {o : Bool} (h : At g s v w0 l o wr) : Kp (fun k => k = g) w0 wr := by
  obtain ⟨q, h1, h2, h3, h4⟩ := h
  exact h4.out

theorem At.far {g : Nat} {s : ByteArray} {v : Value} {w0 wr : World} {l : Its} {o : Bool} (h : At g s v w0 l o wr) {b : Nat} (hb : g < b) (i : Nat) (u : Value) (hw : w0.heap.size ≤ b := by omega) : At g s v w0 l o (wr.setCell ⟨b, i, none⟩ u) := by
  obtain ⟨q, h1, h2, h3, h4⟩ := h
  refine ⟨q, h1, h2, h3.out.kp ((Kp.refl (fun k => k = b) wr).cell i u) (by omega), ?_⟩
  exact h4.out.setCell (.inr hw) u
theorem At.drew {g : Nat} {s : ByteArray} {v : Value} {w0 wr : World} {l : Its} {o : Bool} (h : At g s v w0 l o wr) : At g s v w0 l o wr.drew := by
  obtain ⟨q, h1, h2, h3, h4⟩ := h
  exact ⟨q, h1, h2, h3, h4.out.drew⟩

theorem At.grown {g : Nat} {s : ByteArray} {v : Value} {w0 wr w' : World} {l : Its} {o : Bool} {row : Option Nat} (h : At g s v w0 l o wr) (hg : wr.grownBy w' row) (hr : ∀ k, row = some k → g < k ∧ w0.heap.size ≤ k) : At g s v w0 l o w' := by
  obtain ⟨q, h1, h2, h3, h4⟩ := h
  exact ⟨q, h1, h2, h3.out.kp (grown_kp hg) (fun e => by have := (hr _ e).1; omega), h4.out.grown hg (fun k hk => .inr (hr k hk).2)⟩

/-- The loop of Tokens. -/
def TokI (g : Nat) (s : ByteArray) (w0 : World) (K : Nat) (ts : List Tk) (o2 : Bool) (k : Nat) (a : Value) (wr : World) : Prop :=
  ∃ (done rest : List Tk) (l : Its) (o : Bool), ts = done ++ rest ∧ rest.length + 1 = k ∧ l.length < K ∧ At g s (.slice none 0 0) w0 l o wr ∧ TokR K s.size l o rest o2 ∧ wr.ownsRow (g + 1) 49 6 a done.length (tcells done)

set_option maxHeartbeats 1000000 in
theorem Tokens_any (s : ByteArray) (K : Nat) (w : World) (hs : s.size ≤ 1099511627776) (hK : s.size < K) (ts : List Tk) (o2 : Bool) (ht : TokR K s.size (lft s 0) false ts o2) :
    Calls Tryz.prog 38 #[.string s] w fun e w' => ∃ v, e = .returned (.tuple #[v, .slice none 0 0, .bool o2]) ∧ w'.ownsRow (w.heap.size + 1) 49 6 v ts.length (tcells ts) ∧ Kp (fun _ => False) w w' := by
  have HT := Lib.hid ht
  have HTL : Hid (ts.length ≤ s.size) := Lib.hid (by have h1 := TokR_len (by omega) ht; have h2 := lft_len s 0 (by omega); omega)
  have hlen : (lft s 0).length < K := by have := lft_len s 0 (by omega); omega
  have HA : At w.heap.size s (.slice none 0 0) (w.alloc (.cells #[.string s, .int .i64 0, .slice none 0 0, .bool false] 149)) (lft s 0) false (w.alloc (.cells #[.string s, .int .i64 0, .slice none 0 0, .bool false] 149)) :=
    ⟨0, by omega, Lib.hid rfl, Lib.hid (heap_alloc_new w _), Kp.refl _ _⟩
  have HKA := Lib.hid ((Kp.refl (fun _ => False) w).alloc (.cells #[.string s, .int .i64 0, .slice none 0 0, .bool false] 149))
  have hsz : (w.alloc (.cells #[.string s, .int .i64 0, .slice none 0 0, .bool false] 149)).heap.size = w.heap.size + 1 := by simp
  have HS := Lib.hid hsz
  have HO : (w.alloc (.cells #[.string s, .int .i64 0, .slice none 0 0, .bool false] 149)).ownsRow (w.heap.size + 1) 49 6 (.slice none 0 0) 0 [] := World.ownsRow_nil _ _ _ _
  clear ht hsz
  go_enter Tryz.func38, Tryz.ntmps38
  go_wp2
  generalize w.alloc (.cells #[.string s, .int .i64 0, .slice none 0 0, .bool false] 149) = w1 at *
  go_loopg [6] (ts.length + 1) (fun k a wr => TokI w.heap.size s w1 K ts o2 k a wr)
  case atStart => exact ⟨[], ts, lft s 0, false, rfl, rfl, hlen, HA, HT, HO⟩
  case round =>
    clear HO HA hlen
    obtain ⟨done, rest, l, o, hts, hk, hl, HA, HR, HO⟩ := hrel
    have HTS := Lib.hid hts
    have HK := Lib.hid hk
    clear hts hk HT
    have hst : s.size ≤ 140737488355328 := by omega
    cases HR with
    | nil _ _ h1 =>
      have HH1 := Lib.hid h1
      have hnc : ¬ (pk l 0 = 47 ∧ pk l 1 = 42) := by omega
      clear h1
      obtain ⟨f1, f3, z1, z3, hw0⟩ := HA.f
      have HNC := Lib.hid hnc
      clear hnc
      go_wp2_with fail
      refine (comment_none _ s _ o2 _ l HA.anew hst HNC.out).mono ?_
      rintro e w9 ⟨rfl, rfl⟩
      go_wp2_with fail
      refine (next_eof _ s _ o2 K _ l HA.anew hst hl HH1.out).mono ?_
      rintro e w2 ⟨he, hlo⟩
      unfold tokV at he
      rw [he]
      have HA2 := HA.step hlo
      clear he f1 f3 z1 z3
      obtain ⟨f1, f3, z1, z3, hw1⟩ := HA2.f
      have f2 := HA2.f2
      have HKW := Lib.hid hlo.kp
      have hgk : ∀ k, u6.ownBlock = some k → ¬ k = w.heap.size := fun k hk => by have := (own_lt HO k hk).1; omega
      have HO2 := Lib.hid (World.ownsRow.alloc (own_kp HO hlo.kp hgk) (.cells #[.int .i64 0, .int .i64 0, .int .i64 0, .int .i64 0, .bool false, .string (bstr [])] 49))
      have HA3 := HA2.alloc (.cells #[.int .i64 0, .int .i64 0, .int .i64 0, .int .i64 0, .bool false, .string (bstr [])] 49)
      clear hgk hlo HO HA f1 f3 z1 z3 f2 HA2
      go_wp2
      generalize w2.alloc (.cells #[.int .i64 0, .int .i64 0, .int .i64 0, .int .i64 0, .bool false, .string (bstr [])] 49) = w3 at *
      obtain ⟨f1, f3, z1, z3, hw1⟩ := HA3.f
      have f2 := HA3.f2
      go_quiet (fail)
      go_wp2
      go_ret3
      refine ⟨u6, rfl, ?_, ?_⟩
      · rw [HTS.out, List.append_nil]; exact HO2.out
      · exact (HKA.out.trans' HA3.kp (fun i hi h => by omega)).drewN _
    | cons _ _ k u id tx l' o' ts' _ hc h ht =>
      have hlt := NextR_lt (by omega) h
      have hk0 : (k == 0) = false := beq_f hlt.2
      have HLT := Lib.hid hlt.1
      have HC := Lib.hid hc
      have HN := Lib.hid h
      have HT := Lib.hid ht
      clear hc h ht hlt
      obtain ⟨f1, f3, z1, z3, hw0⟩ := HA.f
      go_wp2_with fail
      refine (comment_none _ s _ o _ l HA.anew hst HC.out).mono ?_
      rintro e w9 ⟨rfl, rfl⟩
      go_wp2_with fail
      refine (next_any _ s _ o K _ l HA.anew hst hl k u id tx l' o' HN.out).mono ?_
      rintro e w2 ⟨he, hlo⟩
      unfold tokV at he
      rw [he]
      clear he
      have HA2 := HA.step hlo
      have hgk : ∀ k, u6.ownBlock = some k → ¬ k = w.heap.size := fun k hk => by have := (own_lt HO k hk).1; omega
      have hO1 := own_kp HO hlo.kp hgk
      have HNB := Lib.hid (fun k hk => (own_lt hO1 k hk).2.1)
      have HO2 := Lib.hid (World.ownsRow.alloc hO1 (.cells #[.int .i64 k, .int .i64 0, .int .i64 0, .int .i64 u, .bool id, .string (bstr tx)] 49))
      clear hO1
      have HA3 := HA2.alloc (.cells #[.int .i64 k, .int .i64 0, .int .i64 0, .int .i64 u, .bool id, .string (bstr tx)] 49)
      have hgl := HA2.gl
      have hb8 := heap_alloc_new w2 (.cells #[.int .i64 k, .int .i64 0, .int .i64 0, .int .i64 u, .bool id, .string (bstr tx)] 49)
      clear hgk hlo HO HA f1 f3 z1 z3 HA2
      go_wp2
      generalize w2.alloc (.cells #[.int .i64 k, .int .i64 0, .int .i64 0, .int .i64 u, .bool id, .string (bstr tx)] 49) = w3 at *
      obtain ⟨f1, f3, z1, z3, hw1⟩ := HA3.f
      obtain ⟨⟨c0, c1, c2, c3, c4, c5⟩, y0, y1, y2, y3, y4, y5⟩ := six hb8
      have HB8 := Lib.hid hb8
      clear hb8
      go_region
      have HB4 : Hid (((w3.setCell ⟨w2.heap.size, 1, none⟩ (.int .i64 ((s.size - wsum l : Nat) : Int))).setCell ⟨w2.heap.size, 2, none⟩ (.int .i64 ((s.size - wsum l' : Nat) : Int))).drew.heap[w2.heap.size]? = some (.cells #[.int .i64 k, .int .i64 ((s.size - wsum l : Nat) : Int), .int .i64 ((s.size - wsum l' : Nat) : Int), .int .i64 u, .bool id, .string (bstr tx)] 49)) := by
        have := HB8.out
        show (World.setCell _ _ _).heap[w2.heap.size]? = _
        simp [World.setCell, Array.getElem?_modify, this]
      have HA4 : At w.heap.size s (.slice none 0 0) w1 l' o' ((w3.setCell ⟨w2.heap.size, 1, none⟩ (.int .i64 ((s.size - wsum l : Nat) : Int))).setCell ⟨w2.heap.size, 2, none⟩ (.int .i64 ((s.size - wsum l' : Nat) : Int))).drew := ((HA3.far hgl _ _ (by have := HS.out; omega)).far hgl _ _ (by have := HS.out; omega)).drew
      have HO4 := Lib.hid (own_set (own_set HO2.out ⟨w2.heap.size, 1, none⟩ (fun h => absurd (HNB.out _ h) (Nat.lt_irrefl _)) (.int .i64 ((s.size - wsum l : Nat) : Int))) ⟨w2.heap.size, 2, none⟩ (fun h => absurd (HNB.out _ h) (Nat.lt_irrefl _)) (.int .i64 ((s.size - wsum l' : Nat) : Int)))
      replace HO4 : Hid ((((w3.setCell ⟨w2.heap.size, 1, none⟩ (.int .i64 ((s.size - wsum l : Nat) : Int))).setCell ⟨w2.heap.size, 2, none⟩ (.int .i64 ((s.size - wsum l' : Nat) : Int))).drew).ownsRow (w.heap.size + 1) 49 6 u6 done.length (tcells done)) := HO4
      clear HB8 HO2 HA3 c0 c1 c2 c3 c4 c5 y0 y1 y2 y3 y4 y5 f1 f3 z1 z3 HNB
      generalize ((w3.setCell ⟨w2.heap.size, 1, none⟩ (.int .i64 ((s.size - wsum l : Nat) : Int))).setCell ⟨w2.heap.size, 2, none⟩ (.int .i64 ((s.size - wsum l' : Nat) : Int))).drew = w4 at *
      obtain ⟨⟨c0, c1, c2, c3, c4, c5⟩, y0, y1, y2, y3, y4, y5⟩ := six HB4.out
      obtain ⟨i0, hi, hz0, hz1, hz2⟩ := info_parts info49
      have hbase : w.heap.size + 1 ≤ w4.heap.size := by have := HA4.gl; omega
      have hnews := fun (X : Array Value) => World.news_of_block (heap_alloc_new w4 (.cells X 49))
      have HNW := Lib.hid hnews
      clear hnews
      have hdl : done.length + (ts'.length + 1) ≤ s.size := by have := HTL.out; rw [HTS.out, List.length_append, List.length_cons] at this; exact this
      go_wp2_with (at_builtin; refine wpList_append_own _ rfl (.tmp 39) (.tmp 41) 90 rfl (w.heap.size + 1) 49 i0 _ 6 56 Tryz.underlying90 hi hz0 hz1 hz2 rfl (by decide) u6 done.length (tcells done) rfl (World.ownsRow.alloc HO4.out _) ⟨w4.heap.size, 0, none⟩ 1 1 (Tk.cells ⟨k, s.size - wsum l, s.size - wsum l', u, id, tx⟩) rfl rfl (HNW.out _) ?c1 ?c3 ?c4 ?c5 ?_)
      case c1 => intro x hx; simp [Tk.cells] at hx; rcases hx with rfl | rfl | rfl | rfl | rfl | rfl <;> rfl
      case c3 => unfold maxLen; omega
      case c4 => omega
      case c5 => exact Nat.le_trans hbase (by simp)
      intro v' w5 hown' hgrow _
      have hgb : ∀ k, u6.ownBlock = some k → w.heap.size + 1 ≤ k := fun k hk => (own_lt HO4.out k hk).1
      have HA5 := Lib.hid ((HA4.alloc (.cells #[.int .i64 k, .int .i64 ((s.size - wsum l : Nat) : Int), .int .i64 ((s.size - wsum l' : Nat) : Int), .int .i64 u, .bool id, .string (bstr tx)] 49)).grown hgrow (fun k hk => by have := hgb k hk; have := HS.out; omega))
      have HO5 := Lib.hid hown'
      clear hown' hgrow hgb c0 c1 c2 c3 c4 c5 y0 y1 y2 y3 y4 y5
      go_wp2
      go_roundg (ts'.length + 1)
      case rel =>
        refine ⟨done ++ [⟨k, s.size - wsum l, s.size - wsum l', u, id, tx⟩], ts', l', o', by rw [HTS.out]; simp, rfl, by have := HLT.out; omega, HA5.out, HT.out, ?_⟩
        rw [tcells_snoc, List.length_append]
        exact HO5.out
      case measure => have := HK.out; simp at this; omega
end Go.Proofs.YtkaejhdncohgpaaGreatFmt
