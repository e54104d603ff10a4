/- Words for the walks of this seat: what a world keeps, and a printer in memory. Under no condition of its own. -/
import Derived.Test.YtkaejhdncohgpaaGreatFmtProg
import Derived.WalkKit
import Derived.WalkSpells
import Derived.KernelRfl
import Derived.Lib.AppendStr
import Derived.Lib.Hide
import Derived.Deep.Draws
import Derived.Deep.QuietTactic
import Derived.BigQuiet
namespace Go.Proofs.YtkaejhdncohgpaaGreatFmt
set_option linter.all false
open Go.RowKit

/-- All blocks of w but those of S are in w' as they were; the streams too. -/
structure Kp (S : Nat → Prop) (w w' : World) : Prop where
  os : w'.os = w.os
  tape : w'.tape = w.tape
  output : w'.output = w.output
  size : w.heap.size ≤ w'.heap.size
  block : ∀ k, k < w.heap.size → ¬ S k → w'.heap[k]? = w.heap[k]?

theorem Kp.refl (S : Nat → Prop) (w : World) : Kp S w w := ⟨rfl, rfl, rfl, Nat.le_refl _, fun _ _ _ => rfl⟩
theorem Kp.trans {S : Nat → Prop} {a b c : World} (h : Kp S a b) (k : Kp S b c) : Kp S a c :=
  ⟨k.os.trans h.os, k.tape.trans h.tape, k.output.trans h.output, Nat.le_trans h.size k.size, fun i hi hs => (k.block i (Nat.lt_of_lt_of_le hi h.size) hs).trans (h.block i hi hs)⟩
theorem Kp.mono {S T : Nat → Prop} {a b : World} (h : Kp S a b) (hs : ∀ k, k < a.heap.size → S k → T k) : Kp T a b :=
  ⟨h.os, h.tape, h.output, h.size, fun i hi ht => h.block i hi fun s => ht (hs i hi s)⟩
theorem Kp.drew {S : Nat → Prop} {a b : World} (h : Kp S a b) : Kp S a b.drew := ⟨h.os, h.tape, h.output, h.size, h.block⟩
theorem Kp.drewN {S : Nat → Prop} {a b : World} (h : Kp S a b) (n : Nat) : Kp S a (b.drewN n) := ⟨h.os, h.tape, h.output, h.size, h.block⟩
theorem Kp.alloc {S : Nat → Prop} {a b : World} (h : Kp S a b) (o : Obj) : Kp S a (b.alloc o) :=
  h.trans ⟨rfl, rfl, rfl, by simp, fun k hk _ => Below.heap_alloc _ _ _ hk⟩
theorem Kp.setCell {S : Nat → Prop} {a b : World} (h : Kp S a b) {p : Addr} (hp : S p.block ∨ a.heap.size ≤ p.block) (u : Value) : Kp S a (b.setCell p u) :=
  ⟨h.os, h.tape, h.output, by simpa [World.setCell] using h.size, fun k hk hs => by
    rw [Below.heap_setCell _ _ _ _ (by rintro rfl; rcases hp with hp | hp; exact hs hp; omega)]; exact h.block k hk hs⟩
theorem Kp.grown {S : Nat → Prop} {a b c : World} {row : Option Nat} (h : Kp S a b) (hg : b.grownBy c row) (hr : ∀ k, row = some k → S k ∨ a.heap.size ≤ k) : Kp S a c :=
  ⟨hg.os.trans h.os, hg.tape.trans h.tape, hg.output.trans h.output, Nat.le_trans h.size hg.size, fun k hk hs => by
    rw [hg.block k (Nat.lt_of_lt_of_le hk h.size) (fun e => by rcases hr k e.symm with h1 | h1; exact hs h1; omega)]; exact h.block k hk hs⟩
theorem Kp.below {S : Nat → Prop} {a b : World} (h : Kp S a b) {B : Nat} (hB : B ≤ a.heap.size) (hS : ∀ k, k < B → ¬ S k) : Below B a b :=
  ⟨h.os, h.tape, h.output, h.size, fun k hk => h.block k (by omega) (hS k hk)⟩

/-- Bytes as cells. -/
def bys (l : List UInt8) : List Value := l.map fun b => Value.int .u8 b.toNat
theorem bys_length (l : List UInt8) : (bys l).length = l.length := by simp [bys]
theorem bys_append (l m : List UInt8) : bys (l ++ m) = bys l ++ bys m := by simp [bys]
theorem strCells_bys (s : ByteArray) : Lib.strCells s = bys s.data.toList := rfl

/-- A printer at block g, in the modes m (minified) and a (ASCII), that has printed css; v is its slice. -/
structure Pr (G : Nat) (w : World) (g : Nat) (m a : Bool) (v : Value) (css : List UInt8) : Prop where
  ge : G ≤ w.heap.size
  blk : ∃ cs, w.heap[g]? = some (.cells cs 158 (0, 0)) ∧ cs.size = 43 ∧ cs[3]? = some (.int .i64 0) ∧ cs[5]? = some (.int .u16 0) ∧ cs[6]? = some (.bool m) ∧ cs[7]? = some (.bool a) ∧ cs[9]? = some (.bool false) ∧ cs[15]? = some v
  own : w.ownsRow G 5 1 v css.length (bys css)
  nots : ∃ cs, w.heap[g]? = some (.cells cs 158 (0, 0)) ∧ cs[17]? = some (.slice none 0 0) ∧ cs[18]? = some (.slice none 0 0)

/-- What a print does to the world: block g and the bytes' own row alone are written. -/
structure Stp (g : Nat) (v v' : Value) (w w' : World) : Prop where
  kp : Kp (fun k => k = g ∨ v.ownBlock = some k) w w'
  own : ∀ k, v'.ownBlock = some k → v.ownBlock = some k ∨ w.heap.size ≤ k

theorem Stp.refl (g : Nat) (v : Value) (w : World) : Stp g v v w w := ⟨Kp.refl _ _, fun _ h => .inl h⟩
theorem Kp.trans' {S T : Nat → Prop} {a b c : World} (h : Kp S a b) (k : Kp T b c) (hs : ∀ i, i < a.heap.size → T i → S i) : Kp S a c :=
  ⟨k.os.trans h.os, k.tape.trans h.tape, k.output.trans h.output, Nat.le_trans h.size k.size, fun i hi hn => (k.block i (Nat.lt_of_lt_of_le hi h.size) fun t => hn (hs i hi t)).trans (h.block i hi hn)⟩
theorem Stp.trans {g : Nat} {v v1 v2 : Value} {a b c : World} (h : Stp g v v1 a b) (k : Stp g v1 v2 b c) : Stp g v v2 a c := by
  refine ⟨h.kp.trans' k.kp fun i hi hs => ?_, fun i hi => ?_⟩
  · rcases hs with rfl | hs
    · exact .inl rfl
    · rcases h.own i hs with h1 | h1
      · exact .inr h1
      · omega
  · rcases k.own i hi with h1 | h1
    · exact h.own i h1
    · exact .inr (Nat.le_trans h.kp.size h1)

theorem Pr.f {G : Nat} {w : World} {g : Nat} {m a : Bool} {v : Value} {css : List UInt8} (h : Pr G w g m a v css) : w.cell? ⟨g, 3, none⟩ = some (.int .i64 0) ∧ w.cell? ⟨g, 5, none⟩ = some (.int .u16 0) ∧ w.cell? ⟨g, 6, none⟩ = some (.bool m) ∧ w.cell? ⟨g, 7, none⟩ = some (.bool a) ∧ w.cell? ⟨g, 9, none⟩ = some (.bool false) ∧ w.cell? ⟨g, 15, none⟩ = some v ∧ w.frozen? ⟨g, 15, none⟩ = false := by
  obtain ⟨cs, hb, _, h3, h5, h6, h7, h9, h15⟩ := h.blk
  simp [World.cell?, World.frozen?, hb, h3, h5, h6, h7, h9, h15]

theorem own_slice {w : World} {B e n z : Nat} {v : Value} {xs : List Value} (h : w.ownsRow B e z v n xs) : ∃ A k c, v = .slice A k c := by
  rcases h.2 with ⟨rfl, _⟩ | ⟨g, cap, cur, rfl, _⟩ <;> exact ⟨_, _, _, rfl⟩
theorem own_lt {w : World} {B e n z : Nat} {v : Value} {xs : List Value} (h : w.ownsRow B e z v n xs) : ∀ k, v.ownBlock = some k → B ≤ k ∧ k < w.heap.size ∧ ∃ cur, w.heap[k]? = some (.cells cur e (0, 0)) := by
  intro k hk
  rcases h.2 with ⟨rfl, _⟩ | ⟨g, cap, cur, rfl, hB, hg, _⟩
  · cases hk
  · obtain rfl : g = k := by simpa [Value.ownBlock] using hk
    exact ⟨hB, (Array.getElem?_eq_some_iff.1 hg).1, cur, hg⟩

theorem own_set {w : World} {B e n z : Nat} {v : Value} {xs : List Value} (h : w.ownsRow B e z v n xs) (p : Addr) (hp : v.ownBlock ≠ some p.block) (u : Value) : (w.setCell p u).ownsRow B e z v n xs := by
  obtain ⟨h1, h2⟩ := h
  refine ⟨h1, ?_⟩
  rcases h2 with h2 | ⟨g, cap, cur, rfl, hB, hg, r⟩
  · exact Or.inl h2
  · exact Or.inr ⟨g, cap, cur, rfl, hB, by rw [Below.heap_setCell _ _ _ _ (by rintro rfl; exact hp rfl)]; exact hg, r⟩
theorem own_kp {w w1 : World} {B e n z : Nat} {v : Value} {xs : List Value} {S : Nat → Prop} (h : w.ownsRow B e z v n xs) (hk : Kp S w w1) (hp : ∀ k, v.ownBlock = some k → ¬ S k) : w1.ownsRow B e z v n xs := by
  have hl := own_lt h
  obtain ⟨h1, h2⟩ := h
  refine ⟨h1, ?_⟩
  rcases h2 with h2 | ⟨g, cap, cur, rfl, hB, hg, r⟩
  · exact Or.inl h2
  · exact Or.inr ⟨g, cap, cur, rfl, hB, by rw [hk.block g (hl g rfl).2.1 (hp g rfl)]; exact hg, r⟩

theorem Pr.ne {G : Nat} {w : World} {g : Nat} {m a : Bool} {v : Value} {css : List UInt8} (h : Pr G w g m a v css) : v.ownBlock ≠ some g := by
  intro e
  obtain ⟨_, _, cur, hc⟩ := own_lt h.own g e
  obtain ⟨cs, hb, _⟩ := h.blk
  rw [hc] at hb
  simp at hb
theorem Pr.lt {G : Nat} {w : World} {g : Nat} {m a : Bool} {v : Value} {css : List UInt8} (h : Pr G w g m a v css) : g < w.heap.size := by
  obtain ⟨cs, hb, _⟩ := h.blk
  exact (Array.getElem?_eq_some_iff.1 hb).1

theorem grown_kp {w w1 : World} {row : Option Nat} (h : w.grownBy w1 row) : Kp (fun k => row = some k) w w1 := ⟨h.os, h.tape, h.output, h.size, fun k hk hs => h.block k hk fun e => hs e.symm⟩

theorem Pr.wrote {G : Nat} {w w1 : World} {g : Nat} {m a : Bool} {v v' : Value} {css css' : List UInt8} (h : Pr G w g m a v css)
    (hown : w1.ownsRow G 5 1 v' css'.length (bys css')) (hg : w.grownBy w1 v.ownBlock) (hn : ∀ k, v'.ownBlock = some k → v.ownBlock = some k ∨ w.heap.size ≤ k) :
    Pr G (w1.setCell ⟨g, 15, none⟩ v') g m a v' css' ∧ Stp g v v' w (w1.setCell ⟨g, 15, none⟩ v') := by
  have hk := grown_kp hg
  obtain ⟨cs, hb, hz, h3, h5, h6, h7, h9, h15⟩ := h.blk
  have hlt := h.lt
  have hb1 : w1.heap[g]? = some (.cells cs 158 (0, 0)) := by rw [hk.block g hlt h.ne]; exact hb
  have hnots : ∃ cs, (w1.setCell ⟨g, 15, none⟩ v').heap[g]? = some (.cells cs 158 (0, 0)) ∧ cs[17]? = some (.slice none 0 0) ∧ cs[18]? = some (.slice none 0 0) := by
    obtain ⟨cs2, hb2, h17, h18⟩ := h.nots
    have e := hb2
    rw [hb] at e
    simp only [Option.some.injEq, Obj.cells.injEq, and_true] at e
    subst e
    refine ⟨cs.setIfInBounds 15 v', by simp [World.setCell, Array.getElem?_modify, hb1], ?_, ?_⟩ <;> simp only [Array.getElem?_setIfInBounds, hz] <;> simpa
  refine ⟨⟨?_, ⟨cs.setIfInBounds 15 v', ?_, ?_⟩, ?_, hnots⟩, ?_, hn⟩
  · exact Nat.le_trans h.ge (by simpa [World.setCell] using hk.size)
  · simp [World.setCell, Array.getElem?_modify, hb1]
  · refine ⟨by simp [hz], ?_, ?_, ?_, ?_, ?_, ?_⟩ <;> simp only [Array.getElem?_setIfInBounds, hz] <;> first | (simp; done) | (simp; assumption)
  · refine own_set hown _ ?_ _
    intro e
    rcases hn g e with h1 | h1
    · exact h.ne h1
    · omega
  · exact (hk.mono fun k _ hs => .inr hs).setCell (.inl (.inl rfl)) _


theorem info5 : (Tryz.prog.info? 5).map (fun i => (i.zero, i.size, i.bytes)) = some (some (.int .u8 0), 1, 1) := by kernel_rfl

section
variable {P : Program} (w : World)
/-- Where the row lies behind an append of a string: where it lay, or in a new block. -/
theorem place_string (base : Nat) (t u ty e : TypeId) (i : TypeInfo) (ht : P.underlying t = some (.slice e)) (hu : P.underlying u = some .string) (hi : P.info? e = some i) (hz : i.zero = some (.int .u8 0)) (hsize : i.size = 1) (hby : i.bytes = 1)
    (v : Value) (n : Nat) (xs : List Value) (hown : w.ownsRow base e 1 v n xs) (s : ByteArray) (h63 : n + s.size ≤ maxLen) (hbytes : n + s.size ≤ 140737488355328)
    {v' : Value} {w' : World} (hr : (Builtin.append_ #[t, u] ty #[v, .string s]).run P w = .ok v' w') (hn : v' = .slice none 0 0 ↔ v = .slice none 0 0 ∧ s.size = 0) : ∀ k, v'.ownBlock = some k → v.ownBlock = some k ∨ w.heap.size ≤ k := by
  have hsmall : n + s.size ≤ 9223372036854775807 := by simp only [maxLen] at h63; omega
  have hxl : xs.length = n := by simpa using hown.1
  intro k hk
  rcases hown.2 with ⟨rfl, rfl⟩ | ⟨g, cap, cur, rfl, hbg, hg, hnc, hcm, hcs, htake⟩
  · by_cases hm : s.size = 0
    · rw [hn.2 ⟨rfl, hm⟩] at hk; cases hk
    · rw [run_append_nil_string (P := P) w t u ty e i (.int .u8 0) ht hu hi hz s (by omega) (by omega) (by rw [hby]; omega)] at hr
      cases hr
      right; simp [Value.ownBlock] at hk; omega
  · by_cases hroom : n + s.size ≤ cap
    · have hcs' : cur.size = cap := by simpa using hcs
      rw [Lib.run_append_room_string (P := P) w t u ty e i ht hu hi hsize g n cap cur hg s hroom (by omega)] at hr
      cases hr; exact .inl hk
    · have holds : ∀ j u, xs[j]? = some u → w.cell? ((⟨g, 0, none⟩ : Addr).add j) = some u := hown.cells (g := g) rfl
      rw [Lib.run_append_grow_string (P := P) w t u ty e i (.int .u8 0) ht hu hi hz ⟨g, 0, none⟩ n cap xs (by rw [hsize]; simpa using hxl) holds s (by omega) (by omega) (by rw [hby]; exact growslice_fits (by omega) (by omega))] at hr
      cases hr; right; simp [Value.ownBlock] at hk; omega

theorem place_slice (base : Nat) (t ty e : TypeId) (i : TypeInfo) (z : Value) (size bytes : Nat) (ht : P.underlying t = some (.slice e)) (hi : P.info? e = some i) (hz : i.zero = some z) (hsize : i.size = size) (hby : i.bytes = bytes) (hzs : z.cells.size = size) (hsz : 0 < size)
    (v : Value) (n : Nat) (xs : List Value) (hown : w.ownsRow base e size v n xs) (ad : Addr) (m c : Nat) (news : List Value) (hl : news.length = m * size) (hnews : ∀ j u, news[j]? = some u → w.cell? (ad.add j) = some u) (h1 : ∀ u ∈ news, u.oneCell' = true)
    (h63 : n + m ≤ maxLen) (hbytes : (n + m) * bytes ≤ 140737488355328)
    {v' : Value} {w' : World} (hr : (Builtin.append_ #[t, t] ty #[v, .slice (some ad) m c]).run P w = .ok v' w') (hn : v' = .slice none 0 0 ↔ v = .slice none 0 0 ∧ m = 0) : ∀ k, v'.ownBlock = some k → v.ownBlock = some k ∨ w.heap.size ≤ k := by
  subst hsize
  subst hby
  have hsmall : n + m ≤ 9223372036854775807 := by simp only [maxLen] at h63; omega
  intro k hk
  rcases hown.2 with ⟨rfl, rfl⟩ | ⟨g, cap, cur, rfl, hbg, hg, hnc, hcm, hcs, htake⟩
  · by_cases hm : m = 0
    · rw [hn.2 ⟨rfl, hm⟩] at hk; cases hk
    · rw [run_append_nil (P := P) w t ty e i z ht hi hz ad m c news hl hnews (by omega) (by omega) (by have hb := hbytes; simp only [Nat.zero_add] at hb; omega)] at hr
      cases hr
      right; simp [Value.ownBlock] at hk; omega
  · by_cases hroom : n + m ≤ cap
    · have hfit : n * i.size + news.length ≤ cur.size := by rw [hl, hcs, ← Nat.add_mul]; exact Nat.mul_le_mul_right _ hroom
      rw [run_append_room (P := P) w t ty e i ht hi g n cap cur hg ad m c news hl hnews h1 hroom hfit] at hr
      cases hr; exact .inl hk
    · have holds : ∀ j u, xs[j]? = some u → w.cell? ((⟨g, 0, none⟩ : Addr).add j) = some u := hown.cells (g := g) rfl
      rw [run_append_grow (P := P) w t ty e i z ht hi hz ⟨g, 0, none⟩ n cap xs hown.1 holds ad m c news hl hnews (by omega) (by omega) (growslice_fits (by omega) hbytes)] at hr
      cases hr; right; simp [Value.ownBlock] at hk; omega
end

/-- What an append onto the bytes of a printer leaves. -/
structure App (G : Nat) (w : World) (v : Value) (css : List UInt8) (bs : List UInt8) (v' : Value) (w1 : World) : Prop where
  own : w1.ownsRow G 5 1 v' (css ++ bs).length (bys (css ++ bs))
  grown : w.grownBy w1 v.ownBlock
  place : ∀ k, v'.ownBlock = some k → v.ownBlock = some k ∨ w.heap.size ≤ k
  form : ∃ A k c, v' = .slice A k c

/-- append(p.css, text...): a string. -/
theorem app_str {w : World} {ops : Array Oper} {rest : List Oper} {o : Oper} {a : Act} {Q : Exit → Act → World → Prop} (sl x : Operand)
    (ho : o.op = .call { callee := .builtin .append, args := #[sl, x], argTypes := #[34, 9] }) (hgd : o.guard = none)
    (G : Nat) (v : Value) (css : List UInt8) (hs : a.eval sl = v) (hown : w.ownsRow G 5 1 v css.length (bys css)) (s : ByteArray) (hx : a.eval x = .string s) (hb : css.length + s.size ≤ 140737488355328) (hG : G ≤ w.heap.size)
    (h : ∀ v' w1, App G w v css s.data.toList v' w1 → wpList Tryz.prog ops Q rest (a.put o.dst v') w1) : wpList Tryz.prog ops Q (o :: rest) a w := by
  obtain ⟨i0, hi, hz0, hz1, hz2⟩ := info_parts info5
  have h63 : css.length + s.size ≤ maxLen := by unfold maxLen; omega
  obtain ⟨v', w', hr, h1, h2, h3⟩ := Lib.run_append_own_string (P := Tryz.prog) w G 34 9 o.type 5 i0 Tryz.underlying34 Tryz.underlying9 hi hz0 hz1 hz2 v css.length (bys css) hown s h63 hb hG
  have h4 := place_string (P := Tryz.prog) w G 34 9 o.type 5 i0 Tryz.underlying34 Tryz.underlying9 hi hz0 hz1 hz2 v css.length (bys css) hown s h63 hb hr h3
  have hA : App G w v css s.data.toList v' w' := ⟨by rw [bys_append, List.length_append]; exact h1, h2, h4, own_slice h1⟩
  refine wpList_plain hgd fun K hK => ?_
  unfold Oper.wp
  simp [execOp, ho, resolve, invoke, builtin, hs, hx, hr, Result.andThen]
  exact hK _ _ (h v' w' hA)

/-- append(p.css, bytes...): bytes that lie in memory. -/
theorem app_bys {w : World} {ops : Array Oper} {rest : List Oper} {o : Oper} {a : Act} {Q : Exit → Act → World → Prop} (sl x : Operand)
    (ho : o.op = .call { callee := .builtin .append, args := #[sl, x], argTypes := #[34, 34] }) (hgd : o.guard = none)
    (G : Nat) (v : Value) (css : List UInt8) (hs : a.eval sl = v) (hown : w.ownsRow G 5 1 v css.length (bys css)) (ad : Addr) (m c : Nat) (bs : List UInt8) (hx : a.eval x = .slice (some ad) m c) (hl : bs.length = m)
    (hnews : ∀ j u, (bys bs)[j]? = some u → w.cell? (ad.add j) = some u) (hb : css.length + m ≤ 140737488355328) (hG : G ≤ w.heap.size)
    (h : ∀ v' w1, App G w v css bs v' w1 → wpList Tryz.prog ops Q rest (a.put o.dst v') w1) : wpList Tryz.prog ops Q (o :: rest) a w := by
  obtain ⟨i0, hi, hz0, hz1, hz2⟩ := info_parts info5
  have h63 : css.length + m ≤ maxLen := by unfold maxLen; omega
  have hone : ∀ u ∈ bys bs, u.oneCell' = true := by intro u hu; simp only [bys, List.mem_map] at hu; obtain ⟨b, _, rfl⟩ := hu; rfl
  have hll : (bys bs).length = m * 1 := by rw [bys_length]; omega
  obtain ⟨v', w', hr, h1, h2, h3⟩ := run_append_own (P := Tryz.prog) w G 34 o.type 5 i0 (.int .u8 0) 1 1 Tryz.underlying34 hi hz0 hz1 hz2 rfl (by decide) v css.length (bys css) hown ad m c (bys bs) hll hnews hone h63 (by omega) hG
  have h4 := place_slice (P := Tryz.prog) w G 34 o.type 5 i0 (.int .u8 0) 1 1 Tryz.underlying34 hi hz0 hz1 hz2 rfl (by decide) v css.length (bys css) hown ad m c (bys bs) hll hnews hone h63 (by omega) hr h3
  have hA : App G w v css bs v' w' := ⟨by rw [bys_append, List.length_append, hl]; exact h1, h2, h4, own_slice h1⟩
  refine wpList_plain hgd fun K hK => ?_
  unfold Oper.wp
  simp [execOp, ho, resolve, invoke, builtin, hs, hx, hr, Result.andThen]
  exact hK _ _ (h v' w' hA)

/-- ... and the store of the new slice. -/
theorem Pr.app {G : Nat} {w w1 : World} {g : Nat} {m a : Bool} {v v' : Value} {css bs : List UInt8} (h : Pr G w g m a v css) (hA : App G w v css bs v' w1) :
    Pr G (w1.setCell ⟨g, 15, none⟩ v') g m a v' (css ++ bs) ∧ Stp g v v' w (w1.setCell ⟨g, 15, none⟩ v') := h.wrote hA.own hA.grown hA.place

/-! Bits of an int. -/
theorem wraps_i64 (n : Int) (h0 : 0 ≤ n) (h1 : n < 2 ^ 62) : IntKind.i64.wrap n = n := by rw [IntKind.wrap_i64]; omega
theorem and63 (x : Int) (h0 : 0 ≤ x) (h1 : x < 2 ^ 62) : bits .and .i64 x 63 = x % 64 := bits_mask .i64 62 (by decide) wraps_i64 6 (by decide) x h0 h1
theorem and31 (x : Int) (h0 : 0 ≤ x) (h1 : x < 2 ^ 62) : bits .and .i64 x 31 = x % 32 := bits_mask .i64 62 (by decide) wraps_i64 5 (by decide) x h0 h1
theorem and15 (x : Int) (h0 : 0 ≤ x) (h1 : x < 2 ^ 62) : bits .and .i64 x 15 = x % 16 := bits_mask .i64 62 (by decide) wraps_i64 4 (by decide) x h0 h1
theorem and7 (x : Int) (h0 : 0 ≤ x) (h1 : x < 2 ^ 62) : bits .and .i64 x 7 = x % 8 := bits_mask .i64 62 (by decide) wraps_i64 3 (by decide) x h0 h1
theorem or_at (i : Nat) (x y : Int) (hx0 : 0 ≤ x) (hx : x % 2 ^ i = 0) (hx1 : x < 2 ^ 62) (hy0 : 0 ≤ y) (hy : y < 2 ^ i) (hy1 : y < 2 ^ 62) : bits .or .i64 x y = x + y :=
  bits_join .i64 62 (by decide) wraps_i64 i x y hx0 hx hx1 hy0 hy hy1

/-- string(b) of bytes that lie in the block made last. -/
theorem foldl_push (l : List Int) : ∀ (b : ByteArray), l.foldl (fun r n => r.push (UInt8.ofNat n.toNat)) b = ⟨b.data ++ (l.map fun x => UInt8.ofNat x.toNat).toArray⟩ := by
  induction l with
  | nil => intro b; simp
  | cons a l ih =>
    intro b
    rw [List.foldl_cons, ih]
    congr 1
    apply Array.ext'
    simp [ByteArray.push]
theorem conv_lit (w : World) (xs : List Int) (n : Nat) (hn : xs.length = n) : (convert 34 9 (.slice (some ⟨w.heap.size, 0, none⟩) n n)).run Tryz.prog (w.alloc (.cells (xs.map (Value.int .u8)).toArray 5)) =
    .ok (.string ⟨(xs.map fun x => UInt8.ofNat x.toNat).toArray⟩) (w.alloc (.cells (xs.map (Value.int .u8)).toArray 5)) := by
  subst hn
  rw [run_convert_bytes_string _ 34 9 5 _ _ _ Tryz.underlying34 Tryz.underlying5 Tryz.underlying9, run_bytesToString _ _ _ _ xs ?_, foldl_push]
  · rw [show (ByteArray.empty.data : Array UInt8) = #[] from rfl, Array.empty_append]
  · have := run_loadCells_list (P := Tryz.prog) (w.alloc (.cells (xs.map (Value.int .u8)).toArray 5)) ⟨w.heap.size, 0, none⟩ (xs.map (Value.int .u8)) (fun j v hj => by
      have e : (w.alloc (.cells (xs.map (Value.int .u8)).toArray 5)).heap[w.heap.size]? = some (.cells (xs.map (Value.int .u8)).toArray 5) := heap_alloc_new w _
      have : (⟨w.heap.size, 0, none⟩ : Addr).add j = ⟨w.heap.size, j, none⟩ := by cases j <;> simp [Addr.add]
      rw [this, World.cell?, e]
      simpa using hj)
    simpa using this

end Go.Proofs.YtkaejhdncohgpaaGreatFmt
