/-
  Seat b0620a. The two slices that LawS0620CFresh and LawS0620CCache take, opened.
-/
import Derived.Test.YbulkluwCFresh
import Derived.Test.YbulkluwRawOpen
import Derived.ChangeSlices
namespace Go.Proofs.Ybulkluw
open Go.RowKit Go.ChangeShapes Go.WideShapes

theorem cells103 : Yba.prog.cellsOf 103 = 1 := by kernel_rfl
theorem cells105 : Yba.prog.cellsOf 105 = 2 := by kernel_rfl

theorem i16_bounds {z : Int} (h : (Lit.int .i16 z).wf = true) : Ok16 z := by
  simp [Lit.wf, IntKind.min, IntKind.max, IntKind.signed, IntKind.bits] at h
  unfold Ok16
  omega
theorem i32_bounds {z : Int} (h : (Lit.int .i32 z).wf = true) : -2147483648 ≤ z ∧ z ≤ 2147483647 := by
  simp [Lit.wf, IntKind.min, IntKind.max, IntKind.signed, IntKind.bits] at h
  omega

section
variable {H : Type} {enc : TypeId × Value → H} {W : World}

theorem prices_of {fuel n c : Nat} {a0 : Option Addr} {x : DataW H × List MemPlace} (h : DataW.trod enc Yba.prog W 0 (fun _ => true) true fuel 31 [.slice a0 n c] = some x) : ∃ P, n = P.length ∧ PrAt W a0 P := by
  rcases Deep.open_slice1 Yba.underlying31 cells103 h with ⟨hcs, _⟩ | ⟨a, len, cap, m, nn, V0, D0, P0, hcs, _, hl, _, hm, _, hx⟩
  · simp at hcs
    exact ⟨[], by simp [hcs.2.1], fun k hk => absurd hk (by simp)⟩
  · simp at hcs
    obtain ⟨rfl, rfl, rfl⟩ := hcs
    simp only [if_true] at hm
    have each : ∀ i, i < n → ∃ y : Int, W.cell? (a.add i) = some (.int .i16 y) ∧ Ok16 y := fun i hi => by
      obtain ⟨c0, t0⟩ := hx i (by omega)
      obtain ⟨z0, e0, _, w0⟩ := DataW.trod_int Yba.underlying103 t0
      simp at e0
      exact ⟨z0, by rw [c0, e0], i16_bounds w0⟩
    obtain ⟨y, hy⟩ := Deep.choose_lt each
    refine ⟨(List.range n).map y, by simp, fun k hk => ?_⟩
    have hk' : k < n := by simpa using hk
    rw [getD_range y 0 n k hk']
    obtain ⟨c0, h1⟩ := hy k hk'
    obtain ⟨b, off, spot⟩ := a
    have hspot : spot = none := by simpa [Addr.add] using World.cell?_spot (hy 0 (by omega)).1
    subst hspot
    rw [add_plain] at c0
    exact ⟨b, off, rfl, World.block_lt_of_cell? W _ c0, c0, h1⟩

theorem list_of {fuel n c : Nat} {a0 : Option Addr} {x : DataW H × List MemPlace} (h : DataW.trod enc Yba.prog W 0 (fun _ => true) true fuel 32 [.slice a0 n c] = some x) : ∃ I, n = I.length ∧ ItAt W a0 I := by
  rcases Deep.open_slice_pairs Yba.underlying32 Yba.underlying105 cells105 rfl rfl cells5 cells103 h with ⟨hcs, _⟩ | ⟨a, len, cap, m, nn, V0, V1, D0, D1, P0, P1, hcs, _, hl, _, hm, _, hx⟩
  · simp at hcs
    exact ⟨[], by simp [hcs.2.1], fun k hk => absurd hk (by simp)⟩
  · simp at hcs
    obtain ⟨rfl, rfl, rfl⟩ := hcs
    simp only [if_true] at hm
    have each : ∀ i, i < n → ∃ y : Nat × Int, W.cell? (a.add (i * 2)) = some (.int .u8 (y.1 : Nat)) ∧ W.cell? (a.add (i * 2 + 1)) = some (.int .i16 y.2) ∧ y.1 ≤ 255 ∧ Ok16 y.2 := fun i hi => by
      obtain ⟨c0, c1, t0, t1⟩ := hx i (by omega)
      obtain ⟨z0, e0, _, w0⟩ := DataW.trod_int Yba.underlying5 t0
      obtain ⟨z1, e1, _, w1⟩ := DataW.trod_int Yba.underlying103 t1
      simp at e0 e1
      obtain ⟨b0, b1⟩ := u8_bounds w0
      obtain ⟨u, rfl⟩ := Int.eq_ofNat_of_zero_le b0
      exact ⟨(u, z1), by rw [c0, e0], by rw [c1, e1], by simp; omega, i16_bounds w1⟩
    obtain ⟨y, hy⟩ := Deep.choose_lt each
    refine ⟨(List.range n).map y, by simp, fun k hk => ?_⟩
    have hk' : k < n := by simpa using hk
    rw [getD_range y (0, 0) n k hk']
    obtain ⟨c0, c1, h1, h2⟩ := hy k hk'
    obtain ⟨b, off, spot⟩ := a
    have hspot : spot = none := by simpa [Addr.add] using World.cell?_spot (hy 0 (by omega)).1
    subst hspot
    rw [add_plain] at c0 c1
    refine ⟨b, off, rfl, World.block_lt_of_cell? W _ c0, c0, ?_, h1, h2⟩
    rw [Nat.add_assoc]; exact c1
end

end Go.Proofs.Ybulkluw
