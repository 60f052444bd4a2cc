/-
  Seat b0620a. zzs0620bq (14), by its contract: Mant << (47 - Shift%48).
-/
import Derived.Test.YbulkluwRows
import Derived.Test.YbulkluwPlain
import Derived.WalkKit
import Derived.WalkSpells
import Derived.WalkLawsBesides
namespace Go.Proofs.Ybulkluw
open Go.RowKit

/-- A float stored into a cell: as any other value of one cell. (The kit's walk has this law for integers, bools, pointers, slices, strings, maps and interface values.) -/
theorem run_store_float (P : Program) (w : World) (a : Addr) (m : Mode) (k : FloatKind) (b : Nat) : (store a (.float k b) m).run P w = stored P w a (.float k b) m := run_store P w a _ m rfl

theorem ret_int {k : IntKind} {a b : Int} (h : a = b) : Ending.returned (.int k a) = .returned (.int k b) := by rw [h]

set_option maxHeartbeats 400000 in
theorem bq (m s : Int) (w : World) (h1 : -128 ≤ m) (h2 : m ≤ 127) (h3 : 0 ≤ s) (h4 : s ≤ 255) :
    Calls Yba.prog 14 #[.agg #[.int .i8 m, .int .u8 s]] w fun e w' => e = .returned (.int .i64 (qOf m s)) ∧ Below w.heap.size w w' := by
  go_enter Yba.func14, Yba.ntmps14
  go_wp2
  go_ret
  have hb := qOf_bound m s h1 h2
  refine ⟨ret_int ?_, (Below.refl _ _).alloc (Nat.le_refl _) _⟩
  exact IntWalk.wrap64_in _ ⟨by unfold qOf at hb; omega, by unfold qOf at hb; omega⟩
end Go.Proofs.Ybulkluw
