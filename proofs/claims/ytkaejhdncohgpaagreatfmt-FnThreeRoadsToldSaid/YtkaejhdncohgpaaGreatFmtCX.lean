/- Walk: a dimension's value and its unit; the search for a power of ten. -/
import Derived.Test.YtkaejhdncohgpaaGreatFmtCW
namespace Go.Proofs.YtkaejhdncohgpaaGreatFmt
set_option linter.all false
open Go.RowKit Go.Lib
set_option maxRecDepth 100000
set_option maxHeartbeats 4000000

theorem DimensionValue_any (pv : Value) (s : ByteArray) (lc pl k ws : Int) (un : Nat) (w : World) (hu : un ≤ s.size) :
    Calls Tryz.prog 108 #[.agg #[pv, .string s, .int .i32 lc, .int .u32 pl, .int .u16 un, .int .u8 k, .int .u8 ws]] w fun e w' => e = .returned (.string (s.extract 0 un)) ∧ Kp (fun _ => False) w w' := by
  have hk0 : Kp (fun _ => False) w (w.alloc (.cells #[pv, .string s, .int .i32 lc, .int .u32 pl, .int .u16 un, .int .u8 k, .int .u8 ws] 100)) := (Kp.refl _ w).alloc _
  go_enter Tryz.func108, Tryz.ntmps108
  go_wp2
  go_ret
  exact ⟨rfl, hk0⟩
theorem DimensionUnit_any (pv : Value) (s : ByteArray) (lc pl k ws : Int) (un : Nat) (w : World) (hu : un ≤ s.size) :
    Calls Tryz.prog 110 #[.agg #[pv, .string s, .int .i32 lc, .int .u32 pl, .int .u16 un, .int .u8 k, .int .u8 ws]] w fun e w' => e = .returned (.string (s.extract un s.size)) ∧ Kp (fun _ => False) w w' := by
  have hk0 : Kp (fun _ => False) w (w.alloc (.cells #[pv, .string s, .int .i32 lc, .int .u32 pl, .int .u16 un, .int .u8 k, .int .u8 ws] 100)) := (Kp.refl _ w).alloc _
  go_enter Tryz.func110, Tryz.ntmps110
  go_wp2
  go_ret
  exact ⟨rfl, hk0⟩
end Go.Proofs.YtkaejhdncohgpaaGreatFmt
