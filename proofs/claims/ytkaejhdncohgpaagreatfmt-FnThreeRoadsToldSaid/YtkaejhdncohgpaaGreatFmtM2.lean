/- Walks: utf8.EncodeRune and encodeRuneNonASCII; the tests of package css_lexer on a code point; What fmt.Sprintf("\\%x", c) gives at an int32: the facts for the walk, and the text; A printer in memory with the tables that it reads; what an escape is printed as. -/
import Derived.Test.YtkaejhdncohgpaaGreatFmtM1
import Derived.Test.YtkaejhdncohgpaaGreatFmtL0
import Derived.Test.YtkaejhdncohgpaaGreatFmtB0
import Derived.Stop.CallBack
import Derived.Stop.IfaceNil
import Derived.Stop.FmtTextKit
import Derived.Stop.JoinedTold
import Derived.Stop.Texts
import Derived.Stop.FmtTextVerbs
import GoSem.ClaimData
import Derived.Deep.DeepFit
import Derived.Shelf.Strings.CaseAny
import Derived.Shelf.Unicode.DecodeAny
/- Walks: utf8.EncodeRune and encodeRuneNonASCII; the tests of package css_lexer on a code point. -/
namespace Go.Proofs.YtkaejhdncohgpaaGreatFmt
set_option linter.all false
open Go.RowKit
set_option maxRecDepth 100000

theorem bys_ofNat (n : Nat) (h : n < 256) : Value.int .u8 ((UInt8.ofNat n).toNat : Int) = Value.int .u8 (n : Int) := by rw [ofNat_lt h]
theorem bys_encd1 {c : Int} (h0 : 0 ≤ c) (h : c < 128) : bys (encd c) = [.int .u8 c] := by
  rw [encd1 h]
  simp only [bys, List.map_cons, List.map_nil]
  rw [bys_ofNat _ (by omega)]
  congr 2; omega
theorem bys_encd2 {c : Int} (h0 : 128 ≤ c) (h : c < 2048) : bys (encd c) = [.int .u8 (192 + c / 64), .int .u8 (128 + c % 64)] := by
  rw [encd2 h0 h]
  simp only [bys, List.map_cons, List.map_nil]
  rw [bys_ofNat _ (by omega), bys_ofNat _ (by omega)]
  congr 2
  · omega
  · congr 2; omega
theorem bys_encd3 {c : Int} (h0 : 2048 ≤ c) (h : c < 65536) : bys (encd c) = [.int .u8 (224 + c / 4096), .int .u8 (128 + c / 64 % 64), .int .u8 (128 + c % 64)] := by
  rw [encd3 h0 h]
  simp only [bys, List.map_cons, List.map_nil]
  rw [bys_ofNat _ (by omega), bys_ofNat _ (by omega), bys_ofNat _ (by omega)]
  congr 2
  · omega
  congr 2
  · omega
  · congr 2; omega
theorem bys_encd4 {c : Int} (h0 : 65536 ≤ c) (h : c ≤ 1114111) : bys (encd c) = [.int .u8 (240 + c / 262144), .int .u8 (128 + c / 4096 % 64), .int .u8 (128 + c / 64 % 64), .int .u8 (128 + c % 64)] := by
  rw [encd4 h0]
  simp only [bys, List.map_cons, List.map_nil]
  rw [bys_ofNat _ (by omega), bys_ofNat _ (by omega), bys_ofNat _ (by omega), bys_ofNat _ (by omega)]
  congr 2
  · omega
  congr 2
  · omega
  congr 2
  · omega
  · congr 2; omega

set_option maxHeartbeats 4000000 in
theorem encN_two (b : Nat) (r : Int) (h0 : 128 ≤ r) (h1 : r < 2048) (w : World) (c0 c1 : Value)
    (hc0 : w.cell? ⟨b, 0, none⟩ = some c0) (hc1 : w.cell? ⟨b, 1, none⟩ = some c1) (hf0 : w.frozen? ⟨b, 0, none⟩ = false) (hf1 : w.frozen? ⟨b, 1, none⟩ = false) :
    Calls Tryz.prog 149 #[.slice (some ⟨b, 0, none⟩) 4 4, .int .i32 r] w fun e w' => e = .returned (.int .i64 2) ∧ w' = w.setCells b 0 [.int .u8 (192 + r / 64), .int .u8 (128 + r % 64)] := by
  go_enter Tryz.func149, Tryz.ntmps149
  go_wp2
  go_ret
  exact ⟨rfl, rfl⟩
set_option maxHeartbeats 4000000 in
theorem encN_three_lo (b : Nat) (r : Int) (h0 : 2048 ≤ r) (h1 : r < 55296) (w : World) (c0 c1 c2 : Value)
    (hc0 : w.cell? ⟨b, 0, none⟩ = some c0) (hc1 : w.cell? ⟨b, 1, none⟩ = some c1) (hc2 : w.cell? ⟨b, 2, none⟩ = some c2) (hf0 : w.frozen? ⟨b, 0, none⟩ = false) (hf1 : w.frozen? ⟨b, 1, none⟩ = false) (hf2 : w.frozen? ⟨b, 2, none⟩ = false) :
    Calls Tryz.prog 149 #[.slice (some ⟨b, 0, none⟩) 4 4, .int .i32 r] w fun e w' => e = .returned (.int .i64 3) ∧ w' = w.setCells b 0 [.int .u8 (224 + r / 4096), .int .u8 (128 + r / 64 % 64), .int .u8 (128 + r % 64)] := by
  go_enter Tryz.func149, Tryz.ntmps149
  go_wp2
  go_ret
  exact ⟨rfl, rfl⟩
set_option maxHeartbeats 4000000 in
theorem encN_three_hi (b : Nat) (r : Int) (h0 : 57344 ≤ r) (h1 : r < 65536) (w : World) (c0 c1 c2 : Value)
    (hc0 : w.cell? ⟨b, 0, none⟩ = some c0) (hc1 : w.cell? ⟨b, 1, none⟩ = some c1) (hc2 : w.cell? ⟨b, 2, none⟩ = some c2) (hf0 : w.frozen? ⟨b, 0, none⟩ = false) (hf1 : w.frozen? ⟨b, 1, none⟩ = false) (hf2 : w.frozen? ⟨b, 2, none⟩ = false) :
    Calls Tryz.prog 149 #[.slice (some ⟨b, 0, none⟩) 4 4, .int .i32 r] w fun e w' => e = .returned (.int .i64 3) ∧ w' = w.setCells b 0 [.int .u8 (224 + r / 4096), .int .u8 (128 + r / 64 % 64), .int .u8 (128 + r % 64)] := by
  go_enter Tryz.func149, Tryz.ntmps149
  go_wp2
  go_ret
  exact ⟨rfl, rfl⟩
set_option maxHeartbeats 4000000 in
theorem encN_four (b : Nat) (r : Int) (h0 : 65536 ≤ r) (h1 : r ≤ 1114111) (w : World) (c0 c1 c2 c3 : Value)
    (hc0 : w.cell? ⟨b, 0, none⟩ = some c0) (hc1 : w.cell? ⟨b, 1, none⟩ = some c1) (hc2 : w.cell? ⟨b, 2, none⟩ = some c2) (hc3 : w.cell? ⟨b, 3, none⟩ = some c3)
    (hf0 : w.frozen? ⟨b, 0, none⟩ = false) (hf1 : w.frozen? ⟨b, 1, none⟩ = false) (hf2 : w.frozen? ⟨b, 2, none⟩ = false) (hf3 : w.frozen? ⟨b, 3, none⟩ = false) :
    Calls Tryz.prog 149 #[.slice (some ⟨b, 0, none⟩) 4 4, .int .i32 r] w fun e w' => e = .returned (.int .i64 4) ∧ w' = w.setCells b 0 [.int .u8 (240 + r / 262144), .int .u8 (128 + r / 4096 % 64), .int .u8 (128 + r / 64 % 64), .int .u8 (128 + r % 64)] := by
  go_enter Tryz.func149, Tryz.ntmps149
  go_wp2
  go_ret
  exact ⟨rfl, rfl⟩
set_option maxHeartbeats 400000 in
theorem enc_one (b : Nat) (r : Int) (h0 : 0 ≤ r) (h1 : r < 128) (w : World) (c0 : Value) (hc0 : w.cell? ⟨b, 0, none⟩ = some c0) (hf0 : w.frozen? ⟨b, 0, none⟩ = false) :
    Calls Tryz.prog 131 #[.slice (some ⟨b, 0, none⟩) 4 4, .int .i32 r] w fun e w' => e = .returned (.int .i64 1) ∧ w' = w.setCells b 0 [.int .u8 r] := by
  go_enter Tryz.func131, Tryz.ntmps131
  go_wp2
  go_ret
  exact ⟨rfl, rfl⟩
set_option maxHeartbeats 400000 in
theorem enc_on (p : Value) (r : Int) (h0 : 128 ≤ r) (h1 : r ≤ 1114111) (w : World) (k : Int) (W' : World)
    (cN : Calls Tryz.prog 149 #[p, .int .i32 r] w fun e w' => e = .returned (.int .i64 k) ∧ w' = W') :
    Calls Tryz.prog 131 #[p, .int .i32 r] w fun e w' => e = .returned (.int .i64 k) ∧ w' = W' := by
  go_enter Tryz.func131, Tryz.ntmps131
  go_wp2_with (go_at_call 149; refine cN.mono ?_; rintro e w' ⟨rfl, rfl⟩)
  go_ret
  exact ⟨rfl, rfl⟩
/-- utf8.EncodeRune at a code point, into four bytes. -/
theorem EncodeRune_any (b : Nat) (r : Int) (h : Scal r) (w : World) (c0 c1 c2 c3 : Value)
    (hc0 : w.cell? ⟨b, 0, none⟩ = some c0) (hc1 : w.cell? ⟨b, 1, none⟩ = some c1) (hc2 : w.cell? ⟨b, 2, none⟩ = some c2) (hc3 : w.cell? ⟨b, 3, none⟩ = some c3)
    (hf0 : w.frozen? ⟨b, 0, none⟩ = false) (hf1 : w.frozen? ⟨b, 1, none⟩ = false) (hf2 : w.frozen? ⟨b, 2, none⟩ = false) (hf3 : w.frozen? ⟨b, 3, none⟩ = false) :
    Calls Tryz.prog 131 #[.slice (some ⟨b, 0, none⟩) 4 4, .int .i32 r] w fun e w' => e = .returned (.int .i64 (encd r).length) ∧ w' = w.setCells b 0 (bys (encd r)) := by
  unfold Scal at h
  by_cases a1 : r < 128
  · rw [← bys_length, bys_encd1 (by omega) a1]
    exact enc_one b r (by omega) a1 w c0 hc0 hf0
  by_cases a2 : r < 2048
  · rw [← bys_length, bys_encd2 (by omega) a2]
    exact enc_on _ r (by omega) (by omega) w _ _ (encN_two b r (by omega) a2 w c0 c1 hc0 hc1 hf0 hf1)
  by_cases a3 : r < 55296
  · rw [← bys_length, bys_encd3 (by omega) (by omega)]
    exact enc_on _ r (by omega) (by omega) w _ _ (encN_three_lo b r (by omega) a3 w c0 c1 c2 hc0 hc1 hc2 hf0 hf1 hf2)
  by_cases a4 : r < 65536
  · rw [← bys_length, bys_encd3 (by omega) (by omega)]
    exact enc_on _ r (by omega) (by omega) w _ _ (encN_three_hi b r (by omega) a4 w c0 c1 c2 hc0 hc1 hc2 hf0 hf1 hf2)
  · rw [← bys_length, bys_encd4 (by omega) (by omega)]
    exact enc_on _ r (by omega) (by omega) w _ _ (encN_four b r (by omega) (by omega) w c0 c1 c2 c3 hc0 hc1 hc2 hc3 hf0 hf1 hf2 hf3)

/-- css_lexer.IsNameStart, IsNameContinue. -/
def nameSt (c : Int) : Bool := starts c || decide (c = 0)
def nameCo (c : Int) : Bool := conts c || decide (c = 0)
theorem IsNameStart_any (c : Int) (w : World) : Calls Tryz.prog 136 #[.int .i32 c] w fun e w' => e = .returned (.bool (nameSt c)) ∧ w' = w := by
  go_enter Tryz.func136, Tryz.ntmps136
  go_wp2
  all_goals (go_ret; exact ⟨ret_bool (by rw [Bool.eq_iff_iff]; simp [nameSt, starts] <;> omega), rfl⟩)
theorem IsNameContinue_any (c : Int) (w : World) : Calls Tryz.prog 113 #[.int .i32 c] w fun e w' => e = .returned (.bool (nameCo c)) ∧ w' = w := by
  have hE : nameCo c = (nameSt c || isDig c || decide (c = 45)) := by
    unfold nameCo nameSt conts
    cases starts c <;> cases isDig c <;> cases (decide (c = 0)) <;> cases (decide (c = 45)) <;> rfl
  rw [hE]
  go_enter Tryz.func113, Tryz.ntmps113
  go_wp2_with (go_at_call 136; (with_reducible refine (IsNameStart_any ..).mono ?_); rintro e w' ⟨rfl, rfl⟩)
  all_goals (go_ret; exact ⟨ret_bool (by first | rfl | (simp_all [isDig]; done) | (rw [Bool.eq_iff_iff]; simp_all [isDig] <;> omega)), rfl⟩)

end Go.Proofs.YtkaejhdncohgpaaGreatFmt

/- What fmt.Sprintf("\\%x", c) gives at an int32: the facts for the walk, and the text. -/
namespace Go.Proofs.YtkaejhdncohgpaaGreatFmt
set_option linter.all false
open Go.RowKit Go.Kit
open Go.Extern.Stop Go.Stop Go.Extern
set_option maxRecDepth 100000

@[go_sem] theorem call104 (args : Array Value) (w : World) : (callFunc 104 args).run Tryz.prog w = ((FmtStop.sprintf #[9, 434] #[9] args).run Tryz.prog w).andThen fun v w' => .ok (.value v) w' :=
  run_callFunc_extern Tryz.func104 (by kernel_rfl) (by kernel_rfl) (by kernel_rfl) (by kernel_rfl) args w
@[go_sem] theorem guard_any (name : String) (w : World) : (FmtStop.guard name).run Tryz.prog w = .ok () w := by kernel_rfl
@[go_sem] theorem fmt0 : FmtStop.printed? ⟨#[92, 37, 120]⟩ 1 = some [(0, 120, false)] := by kernel_rfl
@[go_sem] theorem fmt0r (w : World) : (FmtDoors.printed ⟨#[92, 37, 120]⟩ 1).run Tryz.prog w = .ok [(0, 120, false)] w := by kernel_rfl
theorem name21 : Tryz.prog.typeName? 3 21 = some "int32" := by kernel_rfl
def shape21 : List UInt8 := [4, 5, 0, 0, 0, 0, 0, 0, 0, 105, 110, 116, 51, 50]
@[go_sem] theorem act21 (name : String) (x : Value) (w : World) : (FmtCalls.act name false 120 false (.iface 21 x)).run Tryz.prog w = .ok (.closed false) w := by kernel_rfl
@[go_sem] theorem op21 (name : String) (x : Int) (w : World) : (FmtStop.operand name false 120 false (.iface 21 (.int .i32 x))).run Tryz.prog w = .ok (shape21, Go.Extern.Stop.digits 8 (x % 2 ^ 64).toNat) w := by kernel_rfl
@[go_sem] theorem str21 (w : World) : (typeStr 21).run Tryz.prog w = .ok "int32" w := by kernel_rfl

/-- What the stop is asked, and what it answers. -/
def ask (c : Int) : List (List UInt8) := [[92, 37, 120], shape21, Go.Extern.Stop.digits 8 (c % 2 ^ 64).toNat]
theorem parse0 : (FmtText.parse [92, 37, 120]).map FmtText.glue = some [.lit [92], .verb {} 120] := by rfl

/-- Lower-case hexadecimal digits. -/
def hexL (c : Int) : List UInt8 := FmtText.numeral 16 false c.toNat
theorem ask_text (c : Int) (h0 : 0 ≤ c) (h1 : c ≤ 1114111) : FmtText.text "fmt.Sprintf" (ask c) = some ([92] ++ hexL c) := by
  have hw : (Lit.int .i32 c).wf = true := by simp [Lit.wf, IntKind.min, IntKind.max, IntKind.signed, IntKind.bits]; omega
  have e : (c % 18446744073709551616).toNat = c.toNat := by omega
  have e2 : ask c = [[92, 37, 120], shape21, Go.Extern.Stop.digits 8 (c % 18446744073709551616).toNat] := rfl
  rw [e2, FmtText.text_sprintf_glued parse0 (FmtText.operands_cons (FmtText.operand_int_at (sh := shape21) (k := .i32) rfl rfl c hw) FmtText.operands_nil)]
  simp only [FmtText.render, FmtText.printArg, FmtText.scalarArg, FmtText.fits, hexL]
  simp
  rw [e]
  have hn : ¬ 9223372036854775808 ≤ c.toNat := by omega
  simp [FmtText.fmtInteger, FmtText.pad, hn]
end Go.Proofs.YtkaejhdncohgpaaGreatFmt

namespace Go.Proofs.YtkaejhdncohgpaaGreatFmt
set_option linter.all false
open Go.RowKit

set_option maxHeartbeats 400000 in
theorem print_any (G g : Nat) (m a : Bool) (v : Value) (css : List UInt8) (s : ByteArray) (w : World) (h : Pr G w g m a v css) (hb : css.length + s.size ≤ 140737488355328) :
    Calls Tryz.prog 73 #[.pointer (some ⟨g, 0, none⟩), .string s] w fun e w' => e = .returned (.tuple #[]) ∧ ∃ v', Pr G w' g m a v' (css ++ s.data.toList) ∧ Stp g v v' w w' := by
  obtain ⟨h3, h5, h6, h7, h9, h15, f15⟩ := h.f
  have hown := h.own
  have hge := h.ge
  have hlt := h.lt
  have hne := h.ne
  go_enter Tryz.func73, Tryz.ntmps73
  go_wp2_with (at_builtin; refine app_str (.tmp 8) (.tmp 9) rfl rfl G v css rfl hown s rfl hb hge ?_)
  intro v' w1 hA
  obtain ⟨A, k, c, rfl⟩ := hA.form
  have f1 : w1.frozen? ⟨g, 15, none⟩ = false := by rw [World.frozen?_of_block (w := w) (hA.grown.block g hlt (fun e => hne e.symm))]; exact f15
  have c1 : w1.cell? ⟨g, 15, none⟩ = some v := by rw [World.cell?_of_block (w := w) (hA.grown.block g hlt (fun e => hne e.symm))]; exact h15
  go_wp2
  go_end0
  exact ⟨rfl, _, h.app hA⟩

end Go.Proofs.YtkaejhdncohgpaaGreatFmt

/- A printer in memory with the tables that it reads; what an escape is printed as. -/
namespace Go.Proofs.YtkaejhdncohgpaaGreatFmt
set_option linter.all false
open Go.RowKit Go.Lib
open Go.Extern Go.Extern.Stop Go.Stop
set_option maxRecDepth 100000

/-- What the printer's slice reads as behind an append onto its bytes. -/
theorem Pr.at1 {G : Nat} {w w1 : World} {g : Nat} {m a : Bool} {v v' : Value} {css bs : List UInt8} (h : Pr G w g m a v css) (hA : App G w v css bs v' w1) : w1.cell? ⟨g, 15, none⟩ = some v ∧ w1.frozen? ⟨g, 15, none⟩ = false := by
  obtain ⟨h3, h5, h6, h7, h9, h15, f15⟩ := h.f
  have hlt := h.lt
  have hne := h.ne
  constructor
  · rw [World.cell?_of_block (w := w) (hA.grown.block g hlt (fun e => hne e.symm))]; exact h15
  · rw [World.frozen?_of_block (w := w) (hA.grown.block g hlt (fun e => hne e.symm))]; exact f15
/-- What the stop's answer to an escape's digits reads as. -/
def TxtLaw (F : Go.Stop.Interp) : Prop := ∀ c : Int, 0 ≤ c → c ≤ 1114111 → (FmtStop.textOf (F "fmt.Sprintf" [[92, 37, 120], shape21, Go.Extern.Stop.digits 8 (c % 18446744073709551616).toNat] 0)).data.toList = 92 :: hexL c
/-- The tables of the folding of code points, as the listed variables have them. -/
def foldN (c : Nat) : Int := if 65 ≤ c ∧ c ≤ 90 then c + 32 else if c = 107 then 8490 else if c = 115 then 383 else if 97 ≤ c ∧ c ≤ 122 then (c : Int) - 32 else c
def orbT : List (Int × Int) := [(75, 107), (83, 115), (107, 8490), (115, 383), (181, 924), (197, 229), (223, 7838), (229, 8491), (304, 304), (305, 305), (383, 83), (452, 453), (453, 454), (454, 452), (455, 456), (456, 457), (457, 455), (458, 459), (459, 460), (460, 458), (497, 498), (498, 499), (499, 497), (837, 921), (912, 8147), (914, 946), (917, 949), (920, 952), (921, 953), (922, 954), (924, 956), (928, 960), (929, 961), (931, 962), (934, 966), (937, 969), (944, 8163), (946, 976), (949, 1013), (952, 977), (953, 8126), (954, 1008), (956, 181), (960, 982), (961, 1009), (962, 963), (963, 931), (966, 981), (969, 8486), (976, 914), (977, 1012), (981, 934), (982, 928), (1008, 922), (1009, 929), (1012, 920), (1013, 917), (1042, 1074), (1044, 1076), (1054, 1086), (1057, 1089), (1058, 1090), (1066, 1098), (1074, 7296), (1076, 7297), (1086, 7298), (1089, 7299), (1090, 7300), (1098, 7302), (1122, 1123), (1123, 7303), (7296, 1042), (7297, 1044), (7298, 1054), (7299, 1057), (7300, 7301), (7301, 1058), (7302, 1066), (7303, 1122), (7304, 42570), (7776, 7777), (7777, 7835), (7835, 7776), (7838, 223), (8126, 837), (8147, 912), (8163, 944), (8486, 937), (8490, 75), (8491, 197), (42570, 42571), (42571, 7304), (64261, 64262), (64262, 64261)]
def FoldV (w : World) : Prop := (∀ c : Nat, c < 128 → w.cell? ⟨3, c, none⟩ = some (.int .u16 (foldN c))) ∧ ∃ R oR cap, w.cell? ⟨4, 0, none⟩ = some (.slice (some ⟨R, oR, none⟩) 94 cap) ∧
  ∀ i : Nat, i < 94 → w.cell? ⟨R, oR + i * 2, none⟩ = some (.int .u16 (orbT.getD i (0, 0)).1) ∧ w.cell? ⟨R, oR + i * 2 + 1, none⟩ = some (.int .u16 (orbT.getD i (0, 0)).2)
theorem FoldV_below {w w' : World} (h : FoldV w) (hb : Below w.heap.size w w') : FoldV w' := by
  have k : ∀ {a : Addr} {v : Value}, w.cell? a = some v → w'.cell? a = some v := fun {a v} hc => (hb.cell (World.block_lt_of_cell? w a hc)).trans hc
  obtain ⟨h1, R, oR, cap, h2, h3⟩ := h
  exact ⟨fun c hc => k (h1 c hc), R, oR, cap, k h2, fun i hi => ⟨k (h3 i hi).1, k (h3 i hi).2⟩⟩
/-- The tables below G, and the answers of the stop. -/
def TbG (F : Go.Stop.Interp) (G : Nat) (w : World) : Prop := ∃ W0 : World, W0.heap.size ≤ G ∧ Lib.Utf8Tabs 1 2 W0 ∧ CaseVar 5 caseA W0 ∧ ((F.answers W0.tape ∧ TxtLaw F) ∧ FoldV W0) ∧ Below W0.heap.size W0 w
theorem TbG.kp {F : Go.Stop.Interp} {G : Nat} {w w' : World} {S : Nat → Prop} (h : TbG F G w) (hk : Kp S w w') (hS : ∀ k, S k → G ≤ k) : TbG F G w' := by
  obtain ⟨W0, h1, h2, h3, h4, h5⟩ := h
  exact ⟨W0, h1, h2, h3, h4, h5.trans (hk.below h5.size (fun k hk hs => by have := hS k hs; omega))⟩
theorem TbG.u8 {F : Go.Stop.Interp} {G : Nat} {w : World} (h : TbG F G w) : Lib.Utf8Tabs 1 2 w := by
  obtain ⟨W0, h1, h2, h3, h4, h5⟩ := h
  exact Utf8Tabs_below h2 h5
theorem TbG.case {F : Go.Stop.Interp} {G : Nat} {w : World} (h : TbG F G w) : CaseVar 5 caseA w := by
  obtain ⟨W0, h1, h2, h3, h4, h5⟩ := h
  exact CaseVar_below h3 h5
theorem TbG.ans {F : Go.Stop.Interp} {G : Nat} {w : World} (h : TbG F G w) : F.answers w.tape ∧ TxtLaw F := by
  obtain ⟨W0, h1, h2, h3, h4, h5⟩ := h
  rw [h5.tape]; exact h4.1
theorem TbG.fold {F : Go.Stop.Interp} {G : Nat} {w : World} (h : TbG F G w) : FoldV w := by
  obtain ⟨W0, h1, h2, h3, h4, h5⟩ := h
  exact FoldV_below h4.2 h5

theorem Pr.kp {G : Nat} {w w' : World} {g : Nat} {m a : Bool} {v : Value} {css : List UInt8} {S : Nat → Prop} (h : Pr G w g m a v css) (hk : Kp S w w') (hg : ¬ S g) (hv : ∀ k, v.ownBlock = some k → ¬ S k) : Pr G w' g m a v css := by
  have hlt := h.lt
  obtain ⟨cs, hb, r⟩ := h.blk
  obtain ⟨cs2, hb2, r2⟩ := h.nots
  exact ⟨Nat.le_trans h.ge hk.size, ⟨cs, by rw [hk.block g hlt hg]; exact hb, r⟩, own_kp h.own hk hv, ⟨cs2, by rw [hk.block g hlt hg]; exact hb2, r2⟩⟩
theorem Pr.below {G : Nat} {w w' : World} {g : Nat} {m a : Bool} {v : Value} {css : List UInt8} (h : Pr G w g m a v css) (hk : Kp (fun _ => False) w w') : Pr G w' g m a v css := h.kp hk (fun h => h) (fun _ _ h => h)
theorem Stp.pre {g : Nat} {v v' : Value} {a b c : World} (h : Kp (fun _ => False) a b) (k : Stp g v v' b c) : Stp g v v' a c :=
  (Stp.trans ⟨h.mono fun _ _ f => f.elim, fun _ hk => .inl hk⟩ k)

/-- A printer that lies over the tables. -/
structure Pn (F : Go.Stop.Interp) (G : Nat) (w : World) (g : Nat) (m a : Bool) (v : Value) (css : List UInt8) : Prop where
  pr : Pr G w g m a v css
  gg : G ≤ g
  tb : TbG F G w
theorem Pn.step {F : Go.Stop.Interp} {G : Nat} {w w' : World} {g : Nat} {m a : Bool} {v v' : Value} {css css' : List UInt8} (h : Pn F G w g m a v css) (hp : Pr G w' g m a v' css') (hs : Stp g v v' w w') : Pn F G w' g m a v' css' :=
  ⟨hp, h.gg, h.tb.kp hs.kp fun k hk => by
    rcases hk with rfl | hk
    · exact h.gg
    · exact (own_lt h.pr.own k hk).1⟩
theorem Pn.kp {F : Go.Stop.Interp} {G : Nat} {w w' : World} {g : Nat} {m a : Bool} {v : Value} {css : List UInt8} (h : Pn F G w g m a v css) (hk : Kp (fun _ => False) w w') : Pn F G w' g m a v css :=
  ⟨h.pr.below hk, h.gg, h.tb.kp hk fun _ f => f.elim⟩
/-- What a function of the printer leaves. -/
def Wr (F : Go.Stop.Interp) (G : Nat) (g : Nat) (m a : Bool) (v : Value) (w : World) (css' : List UInt8) (w' : World) : Prop := ∃ v', Pn F G w' g m a v' css' ∧ Stp g v v' w w'
theorem Wr.of {F : Go.Stop.Interp} {G : Nat} {w w' : World} {g : Nat} {m a : Bool} {v v' : Value} {css css' : List UInt8} (h : Pn F G w g m a v css) (hp : Pr G w' g m a v' css') (hs : Stp g v v' w w') : Wr F G g m a v w css' w' := ⟨v', h.step hp hs, hs⟩

/-- A blank behind an escape that would else take in what follows. -/
def spaced (rest : List UInt8) (last : Bool) : List UInt8 :=
  match rest with
  | [] => if last then [32] else []
  | b :: _ => if b.toNat = 32 ∨ b.toNat = 9 ∨ 0 ≤ hexv b.toNat then [32] else []
def hexP (c : Int) (rest : List UInt8) (last : Bool) : List UInt8 := 92 :: hexL c ++ if (hexL c).length < 6 then spaced rest last else []
/-- What an escape of a kind is printed as. -/
def escP (k : Int) (c : Int) (rest : List UInt8) (last : Bool) : List UInt8 := if k = 0 then encd c else if k = 1 ∧ hexv c < 0 then 92 :: encd c else hexP c rest last

theorem runeLen_encd (c : Int) (h : Scal c) : Lib.runeLen c = (encd c).length := by
  unfold Scal at h
  unfold Lib.runeLen
  by_cases a1 : c < 128
  · rw [encd1 a1, if_neg (by omega), if_pos (by omega)]; rfl
  by_cases a2 : c < 2048
  · rw [encd2 (by omega) a2, if_neg (by omega), if_neg (by omega), if_pos (by omega)]; rfl
  by_cases a3 : c < 65536
  · rw [encd3 (by omega) a3, if_neg (by omega), if_neg (by omega), if_neg (by omega), if_neg (by omega), if_pos (by omega)]; rfl
  · rw [encd4 (by omega), if_neg (by omega), if_neg (by omega), if_neg (by omega), if_neg (by omega), if_neg (by omega), if_pos (by omega)]; rfl

end Go.Proofs.YtkaejhdncohgpaaGreatFmt
