/-
  Seat b0617aF. (wholeNumber).read (8), by its contract: three ways: a nil number; inside the range; outside it. fmt's text is whatever F gives: it is looked at nowhere.
-/
import Derived.Test.YbulkltgFmtFacts
import Derived.Deep.QuietTactic
import Derived.BigQuiet
import Derived.Deep.RegionHeld3
namespace Go.Proofs.YbulkltgFmt
open Go.RowKit Go.Extern.Stop Go.Stop Go.Extern
attribute [local go_sem] call17 guard fmt0 fmt0r fmt1 fmt1r op9_115w op2_100w ptr58 elem58

set_option maxHeartbeats 400000 in
theorem errorf1 (F : Interp) (key : ByteArray) (w : World) (hF : F.answers w.tape) (b : Nat) (hb : w.cell? ⟨b, 0, none⟩ = some (.iface 9 (.string key))) :
    Calls Ybaf.prog 12 #[.string ⟨#[37, 115, 32, 105, 115, 32, 109, 105, 115, 115, 105, 110, 103]⟩, .slice (some ⟨b, 0, none⟩) 1 1] w fun e w' => (∃ a, e = .returned (.iface 58 (.pointer (some a)))) ∧ Below w.heap.size w w' := by
  have hF' := answers_open hF
  go_enter Ybaf.func12, Ybaf.ntmps12
  go_wp2
  go_ret
  exact ⟨⟨_, rfl⟩, ((Below.refl _ _).alloc (Nat.le_refl _) _).drew⟩

set_option maxHeartbeats 400000 in
theorem errorf4 (F : Interp) (key : ByteArray) (n lo hi : Int) (w : World) (hF : F.answers w.tape) (b : Nat)
    (hb : w.cell? ⟨b, 0, none⟩ = some (.iface 9 (.string key))) (hb1 : w.cell? ⟨b, 1, none⟩ = some (.iface 2 (.int .i64 n))) (hb2 : w.cell? ⟨b, 2, none⟩ = some (.iface 2 (.int .i64 lo))) (hb3 : w.cell? ⟨b, 3, none⟩ = some (.iface 2 (.int .i64 hi))) :
    Calls Ybaf.prog 12 #[.string ⟨#[37, 115, 32, 37, 100, 32, 105, 115, 32, 111, 117, 116, 115, 105, 100, 101, 32, 37, 100, 45, 37, 100]⟩, .slice (some ⟨b, 0, none⟩) 4 4] w fun e w' => (∃ a, e = .returned (.iface 58 (.pointer (some a)))) ∧ Below w.heap.size w w' := by
  have hF' := answers_open hF
  go_enter Ybaf.func12, Ybaf.ntmps12
  go_wp2
  go_ret
  exact ⟨⟨_, rfl⟩, ((Below.refl _ _).alloc (Nat.le_refl _) _).drew⟩


theorem cells4 (W : World) (b : Nat) (hb : W.heap.size = b) (c0 c1 c2 c3 : Value) : (W.alloc (.cells #[c0, c1, c2, c3] 20)).cell? ⟨b, 0, none⟩ = some c0 ∧ (W.alloc (.cells #[c0, c1, c2, c3] 20)).cell? ⟨b, 1, none⟩ = some c1 ∧ (W.alloc (.cells #[c0, c1, c2, c3] 20)).cell? ⟨b, 2, none⟩ = some c2 ∧ (W.alloc (.cells #[c0, c1, c2, c3] 20)).cell? ⟨b, 3, none⟩ = some c3 := by
  subst hb
  refine ⟨?_, ?_, ?_, ?_⟩ <;> simp

set_option maxHeartbeats 400000 in
theorem read_nil (F : Interp) (key : ByteArray) (lo hi : Int) (w : World) (hF : F.answers w.tape) :
    Calls Ybaf.prog 8 #[.agg #[.string key, .int .i64 lo, .int .i64 hi], .pointer none] w fun e w' => (∃ a, e = .returned (.tuple #[.int .i64 0, .iface 58 (.pointer (some a))])) ∧ Below w.heap.size w w' := by
  go_enter Ybaf.func8, Ybaf.ntmps8
  go_wp2_with (go_at_call 12; refine (errorf1 F key _ (by exact hF) (w.heap.size + 1) (by simp)).mono ?_; rintro e w' ⟨⟨a, rfl⟩, hb⟩)
  go_ret2
  exact ⟨⟨_, rfl⟩, (((Below.refl _ _).alloc (Nat.le_refl _) _).alloc (by simp) _).trans (hb.mono (by simp; omega))⟩

set_option maxHeartbeats 400000 in
theorem read_in (key : ByteArray) (lo hi n : Int) (w : World) (b : Nat) (hc : w.cell? ⟨b, 0, none⟩ = some (.int .i64 n)) (hb : b < w.heap.size) (h1 : lo ≤ n) (h2 : n ≤ hi) :
    Calls Ybaf.prog 8 #[.agg #[.string key, .int .i64 lo, .int .i64 hi], .pointer (some ⟨b, 0, none⟩)] w fun e w' => e = .returned (.tuple #[.int .i64 n, .nilIface]) ∧ Below w.heap.size w w' := by
  have d1 : decide (n < lo) = false := by simp; omega
  have d2 : decide (hi < n) = false := by simp; omega
  go_enter Ybaf.func8, Ybaf.ntmps8
  go_wp2
  go_quiet (fail)
  go_wp2
  go_ret2
  exact ⟨rfl, below_drewN ((Below.refl _ _).alloc (Nat.le_refl _) _) _⟩

set_option maxHeartbeats 1000000 in
theorem read_lo (F : Interp) (key : ByteArray) (lo hi n : Int) (w : World) (hF : F.answers w.tape) (b : Nat) (hc : w.cell? ⟨b, 0, none⟩ = some (.int .i64 n)) (hb : b < w.heap.size) (h1 : n < lo) :
    Calls Ybaf.prog 8 #[.agg #[.string key, .int .i64 lo, .int .i64 hi], .pointer (some ⟨b, 0, none⟩)] w fun e w' => (∃ a, e = .returned (.tuple #[.int .i64 0, .iface 58 (.pointer (some a))])) ∧ Below w.heap.size w w' := by
  have d1 : decide (n < lo) = true := by simp; omega
  go_enter Ybaf.func8, Ybaf.ntmps8
  go_wp2
  go_quiet (fail)
  go_wp2
  go_region_held3 (fun w' => w'.cell? ⟨w.heap.size, 0, none⟩ = some (.string key) ∧ w'.cell? ⟨w.heap.size, 1, none⟩ = some (.int .i64 lo) ∧ w'.cell? ⟨w.heap.size, 2, none⟩ = some (.int .i64 hi) ∧ w'.cell? ⟨b, 0, none⟩ = some (.int .i64 n)) (first | go_keep | (refine ⟨?_, ?_, ?_, ?_⟩ <;> (rw [hbel.cell (by simp; try omega)]; simp [*])))
    ((go_at_call 12; refine (errorf4 F key n lo hi _ (by exact hF) (w.heap.size + 1) (by exact (cells4 _ _ (by simp) _ _ _ _).1) (by exact (cells4 _ _ (by simp) _ _ _ _).2.1) (by exact (cells4 _ _ (by simp) _ _ _ _).2.2.1) (by exact (cells4 _ _ (by simp) _ _ _ _).2.2.2)).mono ?_; rintro e w' ⟨⟨a, rfl⟩, hbel⟩))
  go_wp2
  go_ret2
  exact ⟨⟨_, rfl⟩, ((below_drewN ((Below.refl _ w).alloc (Nat.le_refl _) (.cells #[.string key, .int .i64 lo, .int .i64 hi] 32)) (nq + 1)).alloc (by simp) _).trans (hbel.mono (by simp; omega))⟩

set_option maxHeartbeats 1000000 in
theorem read_hi (F : Interp) (key : ByteArray) (lo hi n : Int) (w : World) (hF : F.answers w.tape) (b : Nat) (hc : w.cell? ⟨b, 0, none⟩ = some (.int .i64 n)) (hb : b < w.heap.size) (h1 : lo ≤ n) (h2 : hi < n) :
    Calls Ybaf.prog 8 #[.agg #[.string key, .int .i64 lo, .int .i64 hi], .pointer (some ⟨b, 0, none⟩)] w fun e w' => (∃ a, e = .returned (.tuple #[.int .i64 0, .iface 58 (.pointer (some a))])) ∧ Below w.heap.size w w' := by
  have d1 : decide (n < lo) = false := by simp; omega
  have d2 : decide (hi < n) = true := by simp; omega
  go_enter Ybaf.func8, Ybaf.ntmps8
  go_wp2
  go_quiet (fail)
  go_wp2
  go_region_held3 (fun w' => w'.cell? ⟨w.heap.size, 0, none⟩ = some (.string key) ∧ w'.cell? ⟨w.heap.size, 1, none⟩ = some (.int .i64 lo) ∧ w'.cell? ⟨w.heap.size, 2, none⟩ = some (.int .i64 hi) ∧ w'.cell? ⟨b, 0, none⟩ = some (.int .i64 n)) (first | go_keep | (refine ⟨?_, ?_, ?_, ?_⟩ <;> (rw [hbel.cell (by simp; try omega)]; simp [*])))
    ((go_at_call 12; refine (errorf4 F key n lo hi _ (by exact hF) (w.heap.size + 1) (by exact (cells4 _ _ (by simp) _ _ _ _).1) (by exact (cells4 _ _ (by simp) _ _ _ _).2.1) (by exact (cells4 _ _ (by simp) _ _ _ _).2.2.1) (by exact (cells4 _ _ (by simp) _ _ _ _).2.2.2)).mono ?_; rintro e w' ⟨⟨a, rfl⟩, hbel⟩))
  go_wp2
  go_ret2
  exact ⟨⟨_, rfl⟩, ((below_drewN ((Below.refl _ w).alloc (Nat.le_refl _) (.cells #[.string key, .int .i64 lo, .int .i64 hi] 32)) (nq + 1)).alloc (by simp) _).trans (hbel.mono (by simp; omega))⟩

/-- Outside the range, on whichever side: 0 and an error. -/
theorem read_out (F : Interp) (key : ByteArray) (lo hi n : Int) (w : World) (hF : F.answers w.tape) (b : Nat) (hc : w.cell? ⟨b, 0, none⟩ = some (.int .i64 n)) (hb : b < w.heap.size) (h : ¬ (lo ≤ n ∧ n ≤ hi)) :
    Calls Ybaf.prog 8 #[.agg #[.string key, .int .i64 lo, .int .i64 hi], .pointer (some ⟨b, 0, none⟩)] w fun e w' => (∃ a, e = .returned (.tuple #[.int .i64 0, .iface 58 (.pointer (some a))])) ∧ Below w.heap.size w w' := by
  by_cases h1 : n < lo
  · exact read_lo F key lo hi n w hF b hc hb h1
  · exact read_hi F key lo hi n w hF b hc hb (by omega) (by omega)

end Go.Proofs.YbulkltgFmt
