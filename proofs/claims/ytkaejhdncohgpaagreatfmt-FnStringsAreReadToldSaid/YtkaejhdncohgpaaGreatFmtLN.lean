/- Walk: spec.Decoded: what a name with escapes means. Condition: at most 2^40 bytes. -/
import Derived.Test.YtkaejhdncohgpaaGreatFmtL10
namespace Go.Proofs.YtkaejhdncohgpaaGreatFmt
set_option linter.all false
open Go.RowKit
set_option maxRecDepth 100000
set_option maxHeartbeats 1000000

theorem Decoded_any (s : ByteArray) (K : Nat) (w : World) (hs : s.size ≤ 1099511627776) (hK : s.size < K) :
    Calls Tryz.prog 39 #[.string s] w fun e w' => e = .returned (.string (bstr (nameM K (its s.data.toList) [] false).1)) ∧ Kp (fun _ => False) w w' := by
  have hlen : (lft s 0).length < K := by have := lft_len s 0 (by omega); omega
  have HA : At w.heap.size s (.slice none 0 0) (w.alloc (.cells #[.string s, .int .i64 0, .slice none 0 0, .bool false] 149)) (lft s 0) false (w.alloc (.cells #[.string s, .int .i64 0, .slice none 0 0, .bool false] 149)) :=
    ⟨0, by omega, Lib.hid rfl, Lib.hid (heap_alloc_new w _), Kp.refl _ _⟩
  have e : lft s 0 = its s.data.toList := by unfold lft; rfl
  have HN := Lib.hid (name_at K HA (by omega) hlen)
  rw [e] at HN
  have HKA := Lib.hid ((Kp.refl (fun _ => False) w).alloc (.cells #[.string s, .int .i64 0, .slice none 0 0, .bool false] 149))
  clear HA hlen e
  go_enter Tryz.func39, Tryz.ntmps39
  go_wp2_with (go_at_call 49; refine HN.out.mono ?_)
  rintro e w2 ⟨rfl, hA2⟩
  have HK2 : Hid (Kp (fun _ => False) w w2) := Lib.hid (HKA.out.trans' hA2.kp (fun k hk e => by omega))
  clear hA2
  go_wp2
  go_ret
  exact ⟨rfl, HK2.out⟩
end Go.Proofs.YtkaejhdncohgpaaGreatFmt
