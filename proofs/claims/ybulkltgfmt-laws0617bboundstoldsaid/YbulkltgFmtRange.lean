/-
  Seat b0617aF. LawS0617BRange (4) and LawS0617BBounds (5): the walks, out of read's contract.
-/
import Derived.Test.YbulkltgFmtRead
namespace Go.Proofs.YbulkltgFmt
open Go.RowKit Go.Extern.Stop Go.Stop Go.Extern

theorem bcell {W w1 : World} (hb : Below W.heap.size W w1) : (∀ b o, b < W.heap.size → w1.cell? ⟨b, o, none⟩ = W.cell? ⟨b, o, none⟩) ∧ (∀ b o, b < W.heap.size → w1.frozen? ⟨b, o, none⟩ = W.frozen? ⟨b, o, none⟩) :=
  ⟨fun b o h => hb.cell (p := ⟨b, o, none⟩) h, fun b o h => hb.frozen (p := ⟨b, o, none⟩) h⟩

set_option maxHeartbeats 400000 in
theorem range_absent (F : Interp) (key : ByteArray) (lo hi n : Int) (w : World) (hF : F.answers w.tape) :
    Calls Ybaf.prog 4 #[.string key, .int .i64 lo, .int .i64 hi, .bool false, .int .i64 n] w fun e w' => e = .returned (.bool true) ∧ Below w.heap.size w w' := by
  go_enter Ybaf.func4, Ybaf.ntmps4
  go_wp2_with (go_at_call 8; refine (read_nil F key lo hi _ (by exact hF)).mono ?_; rintro e w' ⟨⟨a, rfl⟩, hb⟩)
  go_ret
  exact ⟨rfl, ((Below.refl _ _).alloc (Nat.le_refl _) _).trans (hb.mono (by simp))⟩

set_option maxHeartbeats 400000 in
theorem range_in (key : ByteArray) (lo hi n : Int) (w : World) (h1 : lo ≤ n) (h2 : n ≤ hi) :
    Calls Ybaf.prog 4 #[.string key, .int .i64 lo, .int .i64 hi, .bool true, .int .i64 n] w fun e w' => e = .returned (.bool true) ∧ Below w.heap.size w w' := by
  go_enter Ybaf.func4, Ybaf.ntmps4
  go_wp2_with (go_at_call 8; refine (read_in key lo hi n _ (w.heap.size + 1) (by simp) (by simp) h1 h2).mono ?_; rintro e w' ⟨rfl, hb⟩; obtain ⟨hc1, hf1⟩ := bcell hb)
  go_ret
  exact ⟨rfl, (((Below.refl _ _).alloc (Nat.le_refl _) _).alloc (by simp) _).trans (hb.mono (by simp; omega))⟩

set_option maxHeartbeats 400000 in
theorem range_out (F : Interp) (key : ByteArray) (lo hi n : Int) (w : World) (hF : F.answers w.tape) (h : ¬ (lo ≤ n ∧ n ≤ hi)) :
    Calls Ybaf.prog 4 #[.string key, .int .i64 lo, .int .i64 hi, .bool true, .int .i64 n] w fun e w' => e = .returned (.bool true) ∧ Below w.heap.size w w' := by
  have hx : lo ≤ n → hi < n := by omega
  by_cases h1 : lo ≤ n
  · have h2 := hx h1
    clear hx
    go_enter Ybaf.func4, Ybaf.ntmps4
    go_wp2_with (go_at_call 8; refine (read_out F key lo hi n _ (by exact hF) (w.heap.size + 1) (by simp) (by simp) (by omega)).mono ?_; rintro e w' ⟨⟨a, rfl⟩, hb⟩; obtain ⟨hc1, hf1⟩ := bcell hb)
    go_ret
    exact ⟨rfl, (((Below.refl _ _).alloc (Nat.le_refl _) _).alloc (by simp) _).trans (hb.mono (by simp; omega))⟩
  · clear hx h
    go_enter Ybaf.func4, Ybaf.ntmps4
    go_wp2_with (go_at_call 8; refine (read_out F key lo hi n _ (by exact hF) (w.heap.size + 1) (by simp) (by simp) (by omega)).mono ?_; rintro e w' ⟨⟨a, rfl⟩, hb⟩; obtain ⟨hc1, hf1⟩ := bcell hb)
    go_ret
    exact ⟨rfl, (((Below.refl _ _).alloc (Nat.le_refl _) _).alloc (by simp) _).trans (hb.mono (by simp; omega))⟩

theorem range_any (F : Interp) (key : ByteArray) (lo hi n : Int) (present : Bool) (w : World) (hF : F.answers w.tape) :
    Calls Ybaf.prog 4 #[.string key, .int .i64 lo, .int .i64 hi, .bool present, .int .i64 n] w fun e w' => e = .returned (.bool true) ∧ Below w.heap.size w w' := by
  cases present with
  | false => exact range_absent F key lo hi n w hF
  | true =>
    by_cases h : lo ≤ n ∧ n ≤ hi
    · exact range_in key lo hi n w h.1 h.2
    · exact range_out F key lo hi n w hF h

end Go.Proofs.YbulkltgFmt
