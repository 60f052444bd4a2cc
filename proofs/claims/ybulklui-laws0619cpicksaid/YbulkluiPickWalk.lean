/-
  Seat b0619a. LawS0619CPick (7): the walks of its short ways: more than 4096 bytes; no side table. And the laws of '==', '!=' on *Gossip (type 48).
-/
import Derived.Test.YbulkluiRows
import Derived.WalkKit
import Derived.WalkSpells
import Derived.WalkLawsBesides
import Derived.Laws.Pointers
import Derived.Lib.Builder
import Derived.Deep.OwnRows
namespace Go.Proofs.Ybulklui.lawS0619CPick
open Go.RowKit

theorem info55 : (Yba.prog.info? 55).map (fun i => i.size) = some 10 := by kernel_rfl
theorem info73 : (Yba.prog.info? 73).map (fun i => (i.zero, i.size, i.bytes)) = some (some (.int .u8 0), 1, 1) := by kernel_rfl

theorem neq_same (W : World) (a : Addr) : (binOp .neq 48 (.pointer (some a)) (.pointer (some a))).run Yba.prog W = .ok (.bool false) W := by
  obtain ⟨j, hj, _⟩ := Option.map_eq_some_iff.1 info55
  exact Lib.run_neq_ptr_same W a Yba.underlying48 hj
theorem eql_same (W : World) (a : Addr) : (binOp .eql 48 (.pointer (some a)) (.pointer (some a))).run Yba.prog W = .ok (.bool true) W := by
  obtain ⟨j, hj, _⟩ := Option.map_eq_some_iff.1 info55
  exact run_eql_ptr_same W a Yba.underlying48 hj
theorem neq_other (W : World) {a b : Addr} {ca cb : Array Value} {ta tb : TypeId} (hne : a ≠ b) (ha : W.heap[a.block]? = some (.cells ca ta (0, 0))) (hb : W.heap[b.block]? = some (.cells cb tb (0, 0))) :
    (binOp .neq 48 (.pointer (some a)) (.pointer (some b))).run Yba.prog W = .ok (.bool true) W := by
  obtain ⟨j, hj, hs⟩ := Option.map_eq_some_iff.1 info55
  have h : ∀ d : Nat, (Op.equalIn (d + 1) 48 (.pointer (some a)) (.pointer (some b))).run Yba.prog W = .ok false W := fun d => by
    simp [Op.equalIn, run_underlying Yba.underlying48, sizeOf, typeInfo, hj, hs, run_sameAddr_other W hne ha hb]
  simp only [binOp]
  simp [Op.equal, Op.maxDepth, h 9999]

set_option maxHeartbeats 400000 in
theorem walk_big (a0 : Option Addr) (len0 cap0 : Nat) (a1 : Bool) (a2 : Int) (w : World) (h : 4096 < len0) :
    Calls Yba.prog 7 #[.slice a0 len0 cap0, .bool a1, .int .i64 a2] w fun e w' => e = .returned (.bool true) ∧ Below w.heap.size w w' := by
  go_enter Yba.func7, Yba.ntmps7
  go_wp2
  go_ret
  exact ⟨rfl, Below.refl _ _⟩

set_option maxRecDepth 100000 in
set_option maxHeartbeats 1000000 in
theorem walk_none (a0 : Option Addr) (len0 cap0 : Nat) (a2 : Int) (w : World) (h : len0 ≤ 4096) :
    Calls Yba.prog 7 #[.slice a0 len0 cap0, .bool true, .int .i64 a2] w fun e w' => e = .returned (.bool true) ∧ Below w.heap.size w w' := by
  have hmm := @run_makeMap Yba.prog
  have hns := neq_same
  have hes := eql_same
  go_enter Yba.func7, Yba.ntmps7
  go_wp2
  go_ret
  exact ⟨rfl, ((((Below.refl _ _).alloc (Nat.le_refl _) _).alloc (by simp) _).alloc (by simp; omega) _).alloc (by simp; omega) _⟩

set_option maxRecDepth 100000 in
set_option maxHeartbeats 1000000 in
theorem walk_empty (a0 : Option Addr) (cap0 : Nat) (a2 : Int) (w : World) :
    Calls Yba.prog 7 #[.slice a0 0 cap0, .bool false, .int .i64 a2] w fun e w' => e = .returned (.bool true) ∧ Below w.heap.size w w' := by
  have hmm := @run_makeMap Yba.prog
  have hns := neq_same
  have hes := eql_same
  go_enter Yba.func7, Yba.ntmps7
  go_wp2
  go_ret
  exact ⟨rfl, ((((Below.refl _ _).alloc (Nat.le_refl _) _).alloc (by simp) _).alloc (by simp; omega) _).alloc (by simp; omega) _⟩


end Go.Proofs.Ybulklui.lawS0619CPick
