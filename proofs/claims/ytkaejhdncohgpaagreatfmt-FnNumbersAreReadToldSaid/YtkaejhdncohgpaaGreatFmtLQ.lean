/- Walks: spec.digits, spec.Numeral: what they give back is no number or a number, as text. Condition: at most 2^31 - 1 of each. -/
import Derived.Test.YtkaejhdncohgpaaGreatFmtM6
import Derived.Test.YtkaejhdncohgpaaGreatFmtM3
import Derived.Deep.OwnRows
namespace Go.Proofs.YtkaejhdncohgpaaGreatFmt
set_option linter.all false
open Go.RowKit Go.Lib
set_option maxRecDepth 100000
set_option maxHeartbeats 4000000

def digB (b : UInt8) : UInt8 := UInt8.ofNat (48 + b.toNat % 10)
/-- Bytes that came in. -/
def SlB (w : World) (v : Value) (l : List UInt8) : Prop := ∃ (A : Option Addr) (cap : Nat), v = .slice A l.length cap ∧ (l = [] ∨ ∃ b o, A = some ⟨b, o, none⟩ ∧ ∀ i, i < l.length → w.cell? ⟨b, o + i, none⟩ = some (.int .u8 ((l.getD i 0).toNat : Int)))
theorem SlB.kp {w w' : World} {v : Value} {l : List UInt8} (h : SlB w v l) (hk : Kp (fun _ => False) w w') : SlB w' v l := by
  obtain ⟨A, cap, rfl, h⟩ := h
  refine ⟨A, cap, rfl, ?_⟩
  rcases h with h | ⟨b, o, hA, hc⟩
  · exact .inl h
  · refine .inr ⟨b, o, hA, fun i hi => ?_⟩
    have := hc i hi
    have hlt : b < w.heap.size := World.block_lt_of_cell? w _ this
    rw [World.cell?_of_block (w := w) (hk.block b hlt (fun f => f))]; exact this
/-- The state of the loop over digits. -/
structure DgS (l : List UInt8) (w : World) (i : Value) (wr : World) (k : Nat) : Prop where
  i : i = .int .i64 k
  le : k ≤ l.length
  kp : Kp (fun _ => False) w wr
  row : wr.rowIs w.heap.size 5 l.length (fun j => if j < k then .int .u8 ((digB (l.getD j 0)).toNat : Int) else .int .u8 0)
theorem row_own {w : World} {B : Nat} {l : List UInt8} {f : Nat → Value} (h : w.rowIs B 5 l.length f) (hf : ∀ j, j < l.length → f j = .int .u8 ((digB (l.getD j 0)).toNat : Int)) (hl : l.length ≤ 2147483647) : w.ownsRow 0 5 1 (.slice (some ⟨B, 0, none⟩) l.length l.length) (l.map digB).length (bys (l.map digB)) := by
  obtain ⟨c, h1, h2, h3⟩ := h
  refine ⟨by simp [bys], .inr ⟨B, l.length, c, by simp, Nat.zero_le _, h1, by simp, by unfold maxLen; omega, by omega, ?_⟩⟩
  apply List.ext_getElem?
  intro j
  rw [List.getElem?_take]
  by_cases hj : j < l.length
  · rw [if_pos (by simp; omega), Array.getElem?_toList, h3 j hj, hf j hj]
    simp [bys, hj, List.getD]
  · rw [if_neg (by simp; omega), List.getElem?_eq_none (by simp [bys]; omega)]
theorem digits30 (l : List UInt8) (v : Value) (w : World) (hv : SlB w v l) (hl : l.length ≤ 2147483647) :
    Calls Tryz.prog 30 #[v] w fun e w' => e = .returned (.tuple #[.string (bstr (l.map digB)), .bool (decide (l.length ≤ 1000))]) ∧ Kp (fun _ => False) w w' := by
  obtain ⟨A, cap, rfl, hA⟩ := hv
  have hmk := run_make_row' (P := Tryz.prog) 34 5 (.int .u8 0) 1 Tryz.underlying34 info5 rfl .i64 .i64 l.length (by omega) (by omega)
  have h0 : DgS l w (.int .i64 0) (w.alloc (.cells (madeCells #[.int .u8 0] l.length) 5)) 0 :=
    ⟨rfl, Nat.zero_le _, (Kp.refl _ w).alloc _, by simpa using World.rowIs_made w (.int .u8 0) l.length 5⟩
  have H0 := Lib.hid h0
  have HA := Lib.hid hA
  clear h0 hA
  go_enter Tryz.func30, Tryz.ntmps30
  go_wp2
  go_loopw [12] (fun i wr => ∃ k, DgS l w i wr k) (fun i _ => l.length - (intOf i).toNat)
  case atStart => exact ⟨_, H0.out⟩
  case round =>
    obtain ⟨k, hI⟩ := hrel
    have q := hI.i
    subst q
    have hle := hI.le
    have HI := Lib.hid hI
    clear hI
    by_cases hk : k < l.length
    · obtain ⟨b, o, rfl, hc⟩ : ∃ b o, A = some ⟨b, o, none⟩ ∧ ∀ i, i < l.length → w.cell? ⟨b, o + i, none⟩ = some (.int .u8 ((l.getD i 0).toNat : Int)) := by
        rcases HA.out with h | h
        · rw [h] at hk; simp at hk
        · exact h
      have c0 := hc k hk
      have hlt : b < w.heap.size := World.block_lt_of_cell? w _ c0
      have c1 : wr.cell? ⟨b, o + k, none⟩ = some (.int .u8 ((l.getD k 0).toNat : Int)) := by rw [World.cell?_of_block (w := w) (HI.out.kp.block b hlt (fun f => f))]; exact c0
      have f1 := HI.out.row.frozen k
      have c2 := HI.out.row.cell hk
      generalize hx : (l.getD k 0) = x at *
      have hx0 : (0 : Int) ≤ (x.toNat : Int) := by omega
      have hx1 : (x.toNat : Int) ≤ 255 := by have := x.toNat_lt; omega
      have HX := Lib.hid hx
      clear hc c0 hx
      go_wp2
      refine ⟨⟨k + 1, by simp, by omega, HI.out.kp.setCell (.inr (Nat.le_refl _)) _, ?_⟩, ?_⟩
      · refine (HI.out.row.set k _).congr fun j hj => ?_
        by_cases e : j = k
        · subst e
          rw [if_pos rfl, if_pos (by omega), HX.out]
          unfold digB
          congr 1
          have := x.toNat_lt
          rw [UInt8.toNat_ofNat', Nat.mod_eq_of_lt (by omega)]
          omega
        · rw [if_neg e]
          by_cases e2 : j < k
          · rw [if_pos e2, if_pos (by omega)]
          · rw [if_neg e2, if_neg (by omega)]
      · simp [intOf]; omega
    · obtain rfl : k = l.length := by omega
      have hown := row_own HI.out.row (fun j hj => by rw [if_pos hj]) hl
      have hcv := conv_own hown
      have HKP := Lib.hid HI.out.kp
      clear hown HI
      by_cases h1 : l.length ≤ 1000
      · go_wp2
        go_ret2
        exact ⟨by simp <;> omega, HKP.out⟩
      · go_wp2
        go_ret2
        exact ⟨by simp <;> omega, HKP.out⟩

/-- Bytes that are ASCII, as code points. -/
def asc (l : List UInt8) : List Int := l.map fun b => (b.toNat : Int)
theorem encs_asc (l : List UInt8) (h : ∀ b ∈ l, b.toNat < 128) : encs (asc l) = l := by
  induction l with
  | nil => rfl
  | cons b l ih =>
    have hb := h b (by simp)
    show encs ((b.toNat : Int) :: asc l) = _
    rw [encs_cons, ih (fun x hx => h x (by simp [hx])), encd1 (by omega)]
    have : UInt8.ofNat ((b.toNat : Int) % 256).toNat = b := by
      apply UInt8.toNat_inj.1
      rw [UInt8.toNat_ofNat']
      omega
    rw [this]; rfl
theorem digB_d (l : List UInt8) : (∀ b ∈ l.map digB, b.toNat < 128) ∧ ∀ d ∈ asc (l.map digB), isDig d = true := by
  have key : ∀ x : UInt8, 48 ≤ (digB x).toNat ∧ (digB x).toNat ≤ 57 := by
    intro x
    unfold digB
    rw [UInt8.toNat_ofNat', Nat.mod_eq_of_lt (by omega)]
    omega
  constructor
  · intro b hb
    obtain ⟨x, -, rfl⟩ := List.mem_map.1 hb
    have := key x; omega
  · intro d hd
    obtain ⟨b, hb, rfl⟩ := List.mem_map.1 hd
    obtain ⟨x, -, rfl⟩ := List.mem_map.1 hb
    have := key x
    exact isDig_iff.2 (by omega)
def sgB (z : Int) : List UInt8 := if z < 0 then [45] else if 0 < z then [43] else []
theorem sgB_len (z : Int) : (sgB z).length ≤ 1 := by
  unfold sgB
  split
  · simp
  split <;> simp
def exB : Option (List UInt8 × List UInt8) → List UInt8 | none => [] | some (s, d) => 101 :: (s ++ d)
/-- A power of ten, as it was given. -/
def ExOk (pl : List UInt8) (ex : Option (List UInt8 × List UInt8)) : Prop := (ex = none ∧ pl = []) ∨ ∃ s d, ex = some (s, d) ∧ pl = s ++ d ∧ (s = [] ∨ s = [43] ∨ s = [45]) ∧ (∀ b ∈ d, 48 ≤ b.toNat ∧ b.toNat ≤ 57) ∧ d ≠ []
def frB (l : List UInt8) : List UInt8 := if l = [] then [] else 46 :: l
/-- What Numeral gives back: no number, or one. -/
def NumR (tx : ByteArray) (ok : Bool) : Prop := ok = true → ∃ n : Nu, n.Ok ∧ tx = bstr (encs n.cs) ∧ (encs n.cs).length ≤ 4000
theorem NumR.no (tx : ByteArray) : NumR tx false := fun h => by cases h
/-- The number without a power of ten, with one. -/
theorem num_ok (z : Int) (l1 l2 : List UInt8) (ex : Option (List UInt8 × List UInt8)) (h1 : l1.length ≤ 1000) (h2 : l2.length ≤ 1000) (hne : l1.map digB ++ l2.map digB ≠ [])
    (hex : ∀ s d, ex = some (s, d) → (s = [] ∨ s = [43] ∨ s = [45]) ∧ (∀ b ∈ d, 48 ≤ b.toNat ∧ b.toNat ≤ 57) ∧ d ≠ [] ∧ s.length + d.length ≤ 1000) (tx : List UInt8)
    (htx : tx = sgB z ++ l1.map digB ++ frB (l2.map digB) ++ exB ex) : NumR (bstr tx) true := by
  intro _
  have hw := digB_d l1
  have hf := digB_d l2
  have hsg : ∀ b ∈ sgB z, b.toNat < 128 := by
    unfold sgB
    intro b hb
    split at hb
    · simp at hb; subst hb; decide
    split at hb
    · simp at hb; subst hb; decide
    · cases hb
  have hsl := sgB_len z
  refine ⟨⟨asc (sgB z), asc (l1.map digB), asc (l2.map digB), ex.map fun x => (asc x.1, asc x.2)⟩, ?_, ?_⟩
  · refine ⟨?_, hw.2, hf.2, ?_, ?_⟩
    · unfold sgB asc
      split
      · right; right; rfl
      split
      · right; left; rfl
      · left; rfl
    · by_cases e : l1 = []
      · right
        intro e2
        apply hne
        have : l2.map digB = [] := by simpa [asc] using e2
        rw [e, this]; rfl
      · left; simpa [asc] using e
    · intro s d e
      cases ex with
      | none => cases e
      | some x =>
        obtain ⟨s0, d0⟩ := x
        obtain ⟨g1, g2, g3, -⟩ := hex s0 d0 rfl
        simp only [Option.map_some, Option.some.injEq, Prod.mk.injEq] at e
        obtain ⟨rfl, rfl⟩ := e
        refine ⟨?_, ?_, by simpa [asc] using g3⟩
        · rcases g1 with rfl | rfl | rfl
          · left; rfl
          · right; left; rfl
          · right; right; rfl
        · intro x hx
          obtain ⟨b, hb, rfl⟩ := List.mem_map.1 hx
          have := g2 b hb
          exact isDig_iff.2 (by omega)
  · have e1 : encs (Nu.fr ⟨asc (sgB z), asc (l1.map digB), asc (l2.map digB), ex.map fun x => (asc x.1, asc x.2)⟩) = frB (l2.map digB) := by
      unfold Nu.fr frB
      by_cases e : l2 = []
      · subst e; rfl
      · rw [if_neg (by simpa [asc] using e), if_neg (by simpa using e)]
        show encs (46 :: asc _) = _
        rw [encs_cons, encs_asc _ hf.1]; rfl
    have e2 : encs (Nu.exC ⟨asc (sgB z), asc (l1.map digB), asc (l2.map digB), ex.map fun x => (asc x.1, asc x.2)⟩) = exB ex := by
      unfold Nu.exC
      cases ex with
      | none => rfl
      | some x =>
        obtain ⟨s0, d0⟩ := x
        obtain ⟨g1, g2, g3, -⟩ := hex s0 d0 rfl
        show encs (101 :: (asc s0 ++ asc d0)) = 101 :: (s0 ++ d0)
        rw [encs_cons, encs_app, encs_asc s0 (by rcases g1 with rfl | rfl | rfl <;> simp), encs_asc d0 (fun b hb => by have := g2 b hb; omega)]; rfl
    have e3 : encs (Nu.cs ⟨asc (sgB z), asc (l1.map digB), asc (l2.map digB), ex.map fun x => (asc x.1, asc x.2)⟩) = tx := by
      unfold Nu.cs
      rw [encs_app, encs_app, encs_app, e1, e2, encs_asc _ hsg, encs_asc _ hw.1, htx]
      simp
    refine ⟨by rw [e3], ?_⟩
    rw [e3, htx]
    have hfl : (frB (l2.map digB)).length ≤ 1001 := by unfold frB; split <;> simp; omega
    have hxl : (exB ex).length ≤ 1001 := by
      cases ex with
      | none => simp [exB]
      | some x =>
        obtain ⟨s0, d0⟩ := x
        obtain ⟨-, -, -, g4⟩ := hex s0 d0 rfl
        simp [exB]; omega
    simp only [List.length_append, List.length_map]
    omega
/-- What Numeral leaves. -/
def NumQ (w : World) (e : Ending) (w' : World) : Prop := ∃ tx ok, e = .returned (.tuple #[.string tx, .bool ok]) ∧ NumR tx ok ∧ Kp (fun _ => False) w w'
/-- The loop over a power of ten. -/
structure PwS (pl : List UInt8) (k : Nat) (w : World) (i : Value) (wr : World) (j : Nat) : Prop where
  i : i = .int .i64 j
  kj : k ≤ j
  le : j ≤ pl.length
  all : ∀ t, k ≤ t → t < j → 48 ≤ (pl.getD t 0).toNat ∧ (pl.getD t 0).toNat ≤ 57
  eq : w = wr
theorem Numeral_any (z : Int) (v1 v2 : Value) (l1 l2 : List UInt8) (p : ByteArray) (w : World) (hv1 : SlB w v1 l1) (hv2 : SlB w v2 l2) (h1 : l1.length ≤ 2147483647) (h2 : l2.length ≤ 2147483647) (h3 : p.size ≤ 2147483647) :
    Calls Tryz.prog 15 #[.int .i64 z, v1, v2, .string p] w fun e w' => NumQ w e w' := by
  have HD1 := Lib.hid (digits30 l1 v1 w hv1 h1)
  have HV2 := Lib.hid hv2
  clear hv1 hv2
  go_enter Tryz.func15, Tryz.ntmps15
  go_upto_if 18 with fail
  go_cut [10] (fun t wx => t = .string (bstr (sgB z)) ∧ w = wx)
  case first =>
    by_cases z1 : z < 0
    · have HE : Hid (sgB z = [45]) := Lib.hid (by unfold sgB; rw [if_pos z1])
      go_wp2
      go_meet
      exact ⟨by rw [HE.out]; rfl, rfl⟩
    by_cases z2 : 0 < z
    · have HE : Hid (sgB z = [43]) := Lib.hid (by unfold sgB; rw [if_neg z1, if_pos z2])
      go_wp2
      go_meet
      exact ⟨by rw [HE.out]; rfl, rfl⟩
    · have HE : Hid (sgB z = []) := Lib.hid (by unfold sgB; rw [if_neg z1, if_neg z2])
      go_wp2
      go_meet
      exact ⟨by rw [HE.out]; rfl, rfl⟩
  case rest =>
  obtain ⟨rfl, rfl⟩ := hcut
  have hsl := sgB_len z
  go_wp2_with (go_at_call 30; refine HD1.out.mono ?_)
  rintro e w1 ⟨rfl, hk1⟩
  have HD2 := Lib.hid (digits30 l2 v2 w1 (HV2.out.kp hk1) h2)
  have HK1 := Lib.hid hk1
  clear hk1 HD1 HV2
  go_wp2_with (go_at_call 30; refine HD2.out.mono ?_)
  rintro e w2 ⟨rfl, hk2⟩
  have HK2 := Lib.hid (HK1.out.trans hk2)
  clear hk2 HD2 HK1
  obtain ⟨W, hW⟩ : ∃ W, l1.map digB = W := ⟨_, rfl⟩
  obtain ⟨Fr, hFr⟩ : ∃ W, l2.map digB = W := ⟨_, rfl⟩
  obtain ⟨sg, hsg⟩ : ∃ W, sgB z = W := ⟨_, rfl⟩
  rw [hW, hFr, hsg]
  rw [hsg] at hsl
  have hwl : W.length = l1.length := by rw [← hW]; simp
  have hfl : Fr.length = l2.length := by rw [← hFr]; simp
  have e1 : bstr sg ++ bstr W = bstr (sg ++ W) := bstr_add _ _
  have z1 : (bstr sg).size + (bstr W).size ≤ 9223372036854775807 := by rw [bstr_size, bstr_size]; omega
  have HW := Lib.hid hW
  have HFr := Lib.hid hFr
  have HSG := Lib.hid hsg
  clear hW hFr hsg
  go_upto_if 35 with fail
  clear e1 z1
  generalize hbF : (!(bstr Fr).toList.isEmpty) = bF
  rw [Lib.toList_data] at hbF
  have HBF := Lib.hid hbF
  clear hbF
  go_cut [10] (fun t wx => t = .string (bstr (sg ++ W ++ frB Fr)) ∧ w2 = wx)
  case first =>
    cases bF
    · have hE : Fr = [] := by have := HBF.out; simpa [bstr] using this
      have HE := Lib.hid hE
      clear hE
      go_wp2
      go_meet
      exact ⟨by rw [HE.out]; simp [frB], rfl⟩
    · have hE : Fr ≠ [] := by have := HBF.out; simpa [bstr] using this
      have HE : Hid (46 :: Fr = frB Fr) := Lib.hid (by unfold frB; rw [if_neg hE])
      have e2 : (⟨#[46]⟩ : ByteArray) ++ bstr Fr = bstr (46 :: Fr) := by rw [show (⟨#[46]⟩ : ByteArray) = bstr [46] from rfl, bstr_add]; rfl
      have e3 : bstr (sg ++ W) ++ bstr (46 :: Fr) = bstr (sg ++ W ++ 46 :: Fr) := bstr_add _ _
      have z2 : (⟨#[46]⟩ : ByteArray).size + (bstr Fr).size ≤ 9223372036854775807 := by rw [bstr_size]; show 1 + _ ≤ _; omega
      have z3 : (bstr (sg ++ W)).size + (bstr (46 :: Fr)).size ≤ 9223372036854775807 := by rw [bstr_size, bstr_size, List.length_append, List.length_cons]; omega
      clear hE
      go_wp2
      go_meet
      exact ⟨by rw [← HE.out]; simp, rfl⟩
  case rest =>
  obtain ⟨rfl, rfl⟩ := hcut
  clear HBF
  obtain ⟨pl, hpl⟩ : ∃ pl, p = bstr pl := ⟨p.data.toList, rfl⟩
  subst hpl
  have hps : (bstr pl).size = pl.length := bstr_size _
  generalize hTX : sg ++ W ++ frB Fr = TX
  have HTX := Lib.hid hTX
  have htl : TX.length ≤ 4294967300 := by
    rw [← hTX]
    have : (frB Fr).length ≤ Fr.length + 1 := by unfold frB; split <;> simp
    rw [List.length_append, List.length_append]; omega
  clear hTX
  go_upto_if 41 with fail
  generalize hbP : (!(bstr pl).toList.isEmpty) = bP
  rw [Lib.toList_data] at hbP
  have HBP := Lib.hid hbP
  clear hbP
  go_cut [10] (fun t wx => (∃ ex, t = .string (bstr (TX ++ exB ex)) ∧ ExOk pl ex) ∧ w2 = wx)
  case first =>
    cases bP
    case false =>
      have hE : pl = [] := by have := HBP.out; simpa [bstr] using this
      have HE := Lib.hid hE
      clear hE
      go_wp2
      go_meet
      exact ⟨⟨none, by simp [exB], .inl ⟨rfl, HE.out⟩⟩, rfl⟩
    case true =>
      have hE : pl ≠ [] := by have := HBP.out; simpa [bstr] using this
      have hpos : 0 < pl.length := List.length_pos_iff.2 hE
      have e2 : (⟨#[101]⟩ : ByteArray) ++ bstr pl = bstr (101 :: pl) := by rw [show (⟨#[101]⟩ : ByteArray) = bstr [101] from rfl, bstr_add]; rfl
      have e3 : bstr TX ++ bstr (101 :: pl) = bstr (TX ++ 101 :: pl) := bstr_add _ _
      have z2 : (⟨#[101]⟩ : ByteArray).size + (bstr pl).size ≤ 9223372036854775807 := by rw [bstr_size]; show 1 + _ ≤ _; omega
      have z3 : (bstr TX).size + (bstr (101 :: pl)).size ≤ 9223372036854775807 := by rw [bstr_size, bstr_size, List.length_cons]; omega
      have hd : (bstr pl).data.toList = pl := by simp [bstr]
      have HD := Lib.hid hd
      clear hd hE
      generalize hp : bstr pl = p at *
      clear hp
      have hp0 : (0 : Int) < (p.size : Int) := by omega
      obtain ⟨c0, hc0⟩ : ∃ x : UInt8, p[0]'(by omega) = x := ⟨_, rfl⟩
      have hcl : pl[0]? = some c0 := by rw [← HD.out, ← hc0]; exact Lib.data_getElem? p 0 (by omega)
      have HCL := Lib.hid hcl
      clear hcl
      have hcb := c0.toNat_lt
      obtain ⟨k, hk⟩ : ∃ k : Nat, k = if c0.toNat = 45 ∨ c0.toNat = 43 then 1 else 0 := ⟨_, rfl⟩
      have HKK := Lib.hid hk
      clear hk
      go_upto_region 12 with fail
      go_cut [15] (fun t wx => t = .int .i64 0 ∧ w2 = wx)
      case first =>
        go_wp2
        go_meet
        exact ⟨rfl, rfl⟩
      case rest =>
      obtain ⟨rfl, rfl⟩ := hcut
      apply_assumption
      refine wp_seq_k fun K9 hK9 => ?_
      go_cut [15] from 42 to 49 (fun t wx => t = .int .i64 k ∧ w2 = wx)
      case first =>
        by_cases q1 : c0.toNat = 45
        · have b1 : ((c0.toNat : Int) == 45) = true := by simp; omega
          have HE : Hid (k = 1) := Lib.hid (by rw [HKK.out, if_pos (.inl q1)])
          go_wp2
          go_meet
          exact ⟨by rw [HE.out]; rfl, rfl⟩
        have b1 : ((c0.toNat : Int) == 45) = false := by simp; omega
        by_cases q2 : c0.toNat = 43
        · have b2 : ((c0.toNat : Int) == 43) = true := by simp; omega
          have HE : Hid (k = 1) := Lib.hid (by rw [HKK.out, if_pos (.inr q2)])
          go_wp2
          go_meet
          exact ⟨by rw [HE.out]; rfl, rfl⟩
        · have b2 : ((c0.toNat : Int) == 43) = false := by simp; omega
          have HE : Hid (k = 0) := Lib.hid (by rw [HKK.out, if_neg (by omega)])
          go_wp2
          go_meet
          exact ⟨by rw [HE.out]; rfl, rfl⟩
      case rest =>
      obtain ⟨rfl, rfl⟩ := hcut
      have hk1 : k ≤ 1 := by rw [HKK.out]; split <;> omega
      have hkn : k ≤ pl.length := by omega
      have HSD : Hid (k < pl.length → (∀ t, k ≤ t → t < pl.length → 48 ≤ (pl.getD t 0).toNat ∧ (pl.getD t 0).toNat ≤ 57) → ExOk pl (some (pl.take k, pl.drop k))) := Lib.hid (by
        intro h1 h2
        refine .inr ⟨_, _, rfl, (List.take_append_drop k pl).symm, ?_, ?_, ?_⟩
        · match pl, HCL.out with
          | x :: r, hx =>
            simp at hx
            subst hx
            by_cases q : x.toNat = 45 ∨ x.toNat = 43
            · have hk2 : k = 1 := by rw [HKK.out, if_pos q]
              rw [hk2]
              rcases q with q | q
              · right; right
                have : x = 45 := UInt8.toNat_inj.1 q
                rw [this]; rfl
              · right; left
                have : x = 43 := UInt8.toNat_inj.1 q
                rw [this]; rfl
            · have hk2 : k = 0 := by rw [HKK.out, if_neg q]
              rw [hk2]; left; rfl
        · intro b hb
          obtain ⟨i, hi⟩ := List.getElem?_of_mem hb
          rw [List.getElem?_drop] at hi
          have hlt := (List.getElem?_eq_some_iff.1 hi).1
          have := h2 (k + i) (by omega) hlt
          rw [List.getD, hi] at this
          exact this
        · intro e
          have := congrArg List.length e
          simp at this; omega)
      clear hcb
      go_wp2
      go_loopw [16] (fun i wx => ∃ j : Nat, PwS pl k w2 i wx j) (fun i _ => pl.length - (intOf i).toNat)
      case atStart => exact ⟨k, rfl, Nat.le_refl _, hkn, fun t h1 h2 => by omega, rfl⟩
      case round =>
        obtain ⟨j, hI⟩ := hrel
        obtain ⟨rfl, hkj, hjn, hall, rfl⟩ := hI
        have HALL := Lib.hid hall
        clear hall
        by_cases hj : j < pl.length
        · have hjp : (j : Int) < (p.size : Int) := by omega
          obtain ⟨x, hx⟩ : ∃ x : UInt8, p[j]'(by omega) = x := ⟨_, rfl⟩
          have hxl : pl[j]? = some x := by rw [← HD.out, ← hx]; exact Lib.data_getElem? p j (by omega)
          have HXL := Lib.hid hxl
          clear hxl
          have hxb := x.toNat_lt
          by_cases q1 : x.toNat < 48
          · have g1 : (x.toNat : Int) < 48 := by omega
            go_wp2
            exact bodyPost_ret (v := .tuple #[.string ⟨#[]⟩, .bool false]) (by simp [results, Tryz.results15, go_sem]) rfl ⟨_, _, rfl, NumR.no _, HK2.out⟩
          by_cases q2 : 57 < x.toNat
          · have g1 : ¬ (x.toNat : Int) < 48 := by omega
            have g2 : (57 : Int) < (x.toNat : Int) := by omega
            go_wp2
            exact bodyPost_ret (v := .tuple #[.string ⟨#[]⟩, .bool false]) (by simp [results, Tryz.results15, go_sem]) rfl ⟨_, _, rfl, NumR.no _, HK2.out⟩
          · have g1 : ¬ (x.toNat : Int) < 48 := by omega
            have g2 : ¬ (57 : Int) < (x.toNat : Int) := by omega
            go_wp2
            refine ⟨⟨j + 1, ⟨by simp, by omega, by omega, ?_, rfl⟩⟩, ?_⟩
            · intro t ht1 ht2
              by_cases e : t = j
              · subst e
                rw [List.getD, HXL.out, Option.getD_some]
                exact ⟨by omega, by omega⟩
              · exact HALL.out t ht1 (by omega)
            · simp [intOf]; omega
        · obtain rfl : j = pl.length := by omega
          by_cases hkl : k = pl.length
          · have b1 : ((k : Int) == (p.size : Int)) = true := by simp; omega
            go_wp2
            exact bodyPost_ret (v := .tuple #[.string ⟨#[]⟩, .bool false]) (by simp [results, Tryz.results15, go_sem]) rfl ⟨_, _, rfl, NumR.no _, HK2.out⟩
          · have b1 : ((k : Int) == (p.size : Int)) = false := by simp; omega
            have HEX := Lib.hid (HSD.out (by omega) HALL.out)
            clear HSD
            go_wp2
            go_meet
            exact ⟨⟨_, by simp [exB], HEX.out⟩, rfl⟩
  case rest =>
  obtain ⟨⟨ex, rfl, hex⟩, rfl⟩ := hcut
  have HR : Hid (∀ b : Bool, (b = true → l1.length ≤ 1000 ∧ l2.length ≤ 1000 ∧ W ++ Fr ≠ [] ∧ pl.length ≤ 1000) → NumR (bstr (TX ++ exB ex)) b) := Lib.hid fun b hb => by
    cases b
    · exact NumR.no _
    · obtain ⟨g1, g2, g3, g4⟩ := hb rfl
      refine num_ok z l1 l2 ex g1 g2 (by rw [HW.out, HFr.out]; exact g3) ?_ _ ?_
      · intro s d e
        rcases hex with ⟨h, -⟩ | ⟨s', d', h, h2, h3, h4, h5⟩
        · rw [e] at h; cases h
        · rw [e] at h
          cases h
          exact ⟨h3, h4, h5, by rw [← List.length_append, ← h2]; exact g4⟩
      · rw [HW.out, HFr.out, HSG.out, HTX.out]
  have e4 : bstr W ++ bstr Fr = bstr (W ++ Fr) := bstr_add _ _
  have z4 : (bstr W).size + (bstr Fr).size ≤ 9223372036854775807 := by rw [bstr_size, bstr_size]; omega
  clear hex HBP
  by_cases g1 : l1.length ≤ 1000
  · by_cases g2 : l2.length ≤ 1000
    · have d1 : decide (l1.length ≤ 1000) = true := by simpa using g1
      have d2 : decide (l2.length ≤ 1000) = true := by simpa using g2
      rw [d1, d2]
      by_cases g3 : W ++ Fr = []
      · rw [g3] at e4
        have hE : (bstr []).toList.isEmpty = true := by rw [Lib.toList_data]; rfl
        go_wp2
        exact bodyPost_ret (v := .tuple #[.string (bstr (TX ++ exB ex)), .bool false]) (by simp [results, Tryz.results15, go_sem]) rfl ⟨_, _, rfl, NumR.no _, HK2.out⟩
      · have hE : (bstr (W ++ Fr)).toList.isEmpty = false := by rw [Lib.toList_data]; simpa [bstr] using g3
        by_cases g4 : pl.length ≤ 1000
        · have g5 : (pl.length : Int) ≤ 1000 := by omega
          go_wp2
          exact bodyPost_ret (v := .tuple #[.string (bstr (TX ++ exB ex)), .bool true]) (by simp [results, Tryz.results15, go_sem]) rfl ⟨_, _, rfl, HR.out _ (fun _ => ⟨g1, g2, g3, g4⟩), HK2.out⟩
        · have g5 : ¬ (pl.length : Int) ≤ 1000 := by omega
          go_wp2
          exact bodyPost_ret (v := .tuple #[.string (bstr (TX ++ exB ex)), .bool false]) (by simp [results, Tryz.results15, go_sem]) rfl ⟨_, _, rfl, NumR.no _, HK2.out⟩
    · have d1 : decide (l1.length ≤ 1000) = true := by simpa using g1
      have d2 : decide (l2.length ≤ 1000) = false := by simpa using g2
      rw [d1, d2]
      go_wp2
      exact bodyPost_ret (v := .tuple #[.string (bstr (TX ++ exB ex)), .bool false]) (by simp [results, Tryz.results15, go_sem]) rfl ⟨_, _, rfl, NumR.no _, HK2.out⟩
  · have d1 : decide (l1.length ≤ 1000) = false := by simpa using g1
    rw [d1]
    go_wp2
    exact bodyPost_ret (v := .tuple #[.string (bstr (TX ++ exB ex)), .bool false]) (by simp [results, Tryz.results15, go_sem]) rfl ⟨_, _, rfl, NumR.no _, HK2.out⟩
end Go.Proofs.YtkaejhdncohgpaaGreatFmt
