/-
  Seat b0617aF. LawS0617BBounds (5): the walk, out of read's contract.
-/
import Derived.Test.YbulkltgFmtRange
namespace Go.Proofs.YbulkltgFmt
open Go.RowKit Go.Extern.Stop Go.Stop Go.Extern

/-- The wholeNumber lies in block B of W. -/
def Lies (B : Nat) (key : ByteArray) (lo hi : Int) (w W : World) : Prop :=
  (B < W.heap.size ∧ W.cell? ⟨B, 0, none⟩ = some (.string key) ∧ W.cell? ⟨B, 1, none⟩ = some (.int .i64 lo) ∧ W.cell? ⟨B, 2, none⟩ = some (.int .i64 hi)) ∧ W.tape = w.tape ∧ Below B w W

theorem Lies.start (key : ByteArray) (lo hi : Int) (w : World) : Lies w.heap.size key lo hi w (w.alloc (.cells #[.string key, .int .i64 lo, .int .i64 hi] 32)) := by
  refine ⟨⟨by simp, by simp, by simp, by simp⟩, rfl, (Below.refl _ _).alloc (Nat.le_refl _) _⟩

theorem Lies.step {B : Nat} {key : ByteArray} {lo hi : Int} {w W w1 : World} {o : Obj} (h : Lies B key lo hi w W) (hb : Below (W.heap.size + 1) (W.alloc o) w1) : Lies B key lo hi w w1 := by
  obtain ⟨⟨hz, k0, k1, k2⟩, ht, hB⟩ := h
  have c : ∀ j, w1.cell? ⟨B, j, none⟩ = W.cell? ⟨B, j, none⟩ := fun j => by
    rw [hb.cell (p := ⟨B, j, none⟩) (by simp; omega)]
    exact World.cell?_alloc_past _ _ _ hz
  have hs := hb.size
  refine ⟨⟨?_, by rw [c]; exact k0, by rw [c]; exact k1, by rw [c]; exact k2⟩, hb.tape.trans ht, (hB.alloc (by omega) o).trans (hb.mono (by omega))⟩
  simp at hs
  omega

set_option maxHeartbeats 400000 in
theorem bounds_none (key : ByteArray) (lo hi : Int) (w : World) (h : hi < lo) :
    Calls Ybaf.prog 5 #[.string key, .int .i64 lo, .int .i64 hi] w fun e w' => e = .returned (.bool true) ∧ Below w.heap.size w w' := by
  go_enter Ybaf.func5, Ybaf.ntmps5
  go_wp2
  go_ret
  exact ⟨rfl, Below.refl _ _⟩

/-- The two ways by which a number just outside a bound is refused, as one step of the walk. -/
theorem read_out_at (F : Interp) (key : ByteArray) (lo hi n : Int) (w W : World) (hF : F.answers w.tape) (L : Lies w.heap.size key lo hi w W) (h : ¬ (lo ≤ n ∧ n ≤ hi)) :
    Calls Ybaf.prog 8 #[.agg #[.string key, .int .i64 lo, .int .i64 hi], .pointer (some ⟨W.heap.size, 0, none⟩)] (W.alloc (.cells #[.int .i64 n] 2)) fun e w' => (∃ a, e = .returned (.tuple #[.int .i64 0, .iface 58 (.pointer (some a))])) ∧ Lies w.heap.size key lo hi w w' := by
  refine (read_out F key lo hi n _ (by rw [show (W.alloc (.cells #[.int .i64 n] 2)).tape = w.tape from L.2.1]; exact hF) W.heap.size (by simp) (by simp) h).mono ?_
  rintro e w' ⟨he, hb⟩
  exact ⟨he, L.step (by simpa using hb)⟩

theorem read_in_at (key : ByteArray) (lo hi n : Int) (w W : World) (L : Lies w.heap.size key lo hi w W) (h1 : lo ≤ n) (h2 : n ≤ hi) :
    Calls Ybaf.prog 8 #[.agg #[.string key, .int .i64 lo, .int .i64 hi], .pointer (some ⟨W.heap.size, 0, none⟩)] (W.alloc (.cells #[.int .i64 n] 2)) fun e w' => e = .returned (.tuple #[.int .i64 n, .nilIface]) ∧ Lies w.heap.size key lo hi w w' := by
  refine (read_in key lo hi n _ W.heap.size (by simp) (by simp) h1 h2).mono ?_
  rintro e w' ⟨he, hb⟩
  exact ⟨he, L.step (by simpa using hb)⟩

set_option maxHeartbeats 1000000 in
theorem bounds_some (F : Interp) (key : ByteArray) (lo hi : Int) (w : World) (hF : F.answers w.tape) (h : lo ≤ hi) (w1 : -9223372036854775808 ≤ lo) (w2 : hi ≤ 9223372036854775807) :
    Calls Ybaf.prog 5 #[.string key, .int .i64 lo, .int .i64 hi] w fun e w' => e = .returned (.bool true) ∧ Below w.heap.size w w' := by
  have HF : Hid (F.answers w.tape) := hF
  clear hF
  go_enter Ybaf.func5, Ybaf.ntmps5
  go_wp2_with fail
  refine (read_in key lo hi lo _ (w.heap.size + 1) (by simp) (by simp) (by omega) h).mono ?_
  rintro e wa ⟨rfl, hba⟩
  have LA : Hid (Lies w.heap.size key lo hi w wa) := (Lies.start key lo hi w).step (by simpa using hba)
  clear hba
  obtain ⟨⟨hza, a0, a1, a2⟩, -, -⟩ := LA.out
  go_wp2_with fail
  refine (read_in_at key lo hi hi w wa LA.out h (by omega)).mono ?_
  rintro e wb ⟨rfl, Lb⟩
  have LB : Hid (Lies w.heap.size key lo hi w wb) := Lb
  clear Lb LA hza a0 a1 a2
  obtain ⟨⟨hza, a0, a1, a2⟩, -, -⟩ := LB.out
  by_cases hlo : -9223372036854775808 < lo
  · go_wp2_with fail
    refine (read_out_at F key lo hi (lo - 1) w wb HF.out LB.out (by omega)).mono ?_
    rintro e wc ⟨⟨a, rfl⟩, Lc⟩
    have LC : Hid (Lies w.heap.size key lo hi w wc) := Lc
    clear Lc LB hza a0 a1 a2
    obtain ⟨⟨hza, a0, a1, a2⟩, -, -⟩ := LC.out
    by_cases hhi : hi < 9223372036854775807
    · go_wp2_with fail
      refine (read_out_at F key lo hi (hi + 1) w wc HF.out LC.out (by omega)).mono ?_
      rintro e wd ⟨⟨a', rfl⟩, Ld⟩
      have LD : Hid (Lies w.heap.size key lo hi w wd) := Ld
      clear Ld LC hza a0 a1 a2
      go_wp2
      go_ret
      exact ⟨rfl, LD.out.2.2⟩
    · go_wp2
      go_ret
      exact ⟨rfl, LC.out.2.2⟩
  · by_cases hhi : hi < 9223372036854775807
    · go_wp2_with fail
      refine (read_out_at F key lo hi (hi + 1) w wb HF.out LB.out (by omega)).mono ?_
      rintro e wd ⟨⟨a', rfl⟩, Ld⟩
      have LD : Hid (Lies w.heap.size key lo hi w wd) := Ld
      clear Ld LB hza a0 a1 a2
      go_wp2
      go_ret
      exact ⟨rfl, LD.out.2.2⟩
    · go_wp2
      go_ret
      exact ⟨rfl, LB.out.2.2⟩

theorem bounds_any (F : Interp) (key : ByteArray) (lo hi : Int) (w : World) (hF : F.answers w.tape) (w1 : -9223372036854775808 ≤ lo) (w2 : hi ≤ 9223372036854775807) :
    Calls Ybaf.prog 5 #[.string key, .int .i64 lo, .int .i64 hi] w fun e w' => e = .returned (.bool true) ∧ Below w.heap.size w w' := by
  by_cases h : hi < lo
  · exact bounds_none key lo hi w h
  · exact bounds_some F key lo hi w hF (by omega) w1 w2

end Go.Proofs.YbulkltgFmt
