/-
  Seat b0620a. The argument of LawS0620BExact and LawS0620BGreatestFit, opened: whatever reads as [][][]ZzS0620BItem lies as 'RawArg' says.
-/
import Derived.Test.YbulkluwLawB
import Derived.Deep.SlicePairs
import Derived.ProofKit
namespace Go.Proofs.Ybulkluw
open Go.RowKit Go.ChangeShapes Go.WideShapes

theorem cells93 : Yba.prog.cellsOf 93 = 2 := by kernel_rfl
theorem cells91 : Yba.prog.cellsOf 91 = 1 := by kernel_rfl
theorem cells5 : Yba.prog.cellsOf 5 = 1 := by kernel_rfl
theorem cells88 : Yba.prog.cellsOf 88 = 1 := by kernel_rfl
theorem cells89 : Yba.prog.cellsOf 89 = 1 := by kernel_rfl

theorem i8_bounds {z : Int} (h : (Lit.int .i8 z).wf = true) : -128 ≤ z ∧ z ≤ 127 := by
  simp [Lit.wf, IntKind.min, IntKind.max, IntKind.signed, IntKind.bits] at h
  omega
theorem u8_bounds {z : Int} (h : (Lit.int .u8 z).wf = true) : 0 ≤ z ∧ z ≤ 255 := by
  simp [Lit.wf, IntKind.min, IntKind.max, IntKind.signed, IntKind.bits] at h
  omega

theorem getD_range {α : Type} (f : Nat → α) (d : α) (n k : Nat) (h : k < n) : ((List.range n).map f).getD k d = f k := by
  simp [List.getD_eq_getElem?_getD, h]

section
variable {H : Type} {enc : TypeId × Value → H} {W : World}

theorem items_of {fuel : Nat} {V : Value} {x : DataW H × List MemPlace} (h : DataW.trod enc Yba.prog W 0 (fun _ => true) true fuel 89 [V] = some x) : ∃ a len cap its, V = .slice a len cap ∧ its.length = len ∧ ItemsAt W a its := by
  rcases Deep.open_slice_pairs Yba.underlying89 Yba.underlying93 cells93 rfl rfl cells91 cells5 h with ⟨hcs, _⟩ | ⟨a, len, cap, m, n, V0, V1, D0, D1, P0, P1, hcs, _, hl, _, hm, _, hx⟩
  · simp at hcs
    exact ⟨none, 0, 0, [], hcs, rfl, fun k hk => absurd hk (by simp)⟩
  · simp at hcs
    simp only [if_true] at hm
    have each : ∀ i, i < len → ∃ y : Int × Int, W.cell? (a.add (i * 2)) = some (.int .i8 y.1) ∧ W.cell? (a.add (i * 2 + 1)) = some (.int .u8 y.2) ∧ (-128 ≤ y.1 ∧ y.1 ≤ 127) ∧ 0 ≤ y.2 ∧ y.2 ≤ 255 := fun i hi => by
      obtain ⟨c0, c1, t0, t1⟩ := hx i (by omega)
      obtain ⟨z0, e0, _, w0⟩ := DataW.trod_int Yba.underlying91 t0
      obtain ⟨z1, e1, _, w1⟩ := DataW.trod_int Yba.underlying5 t1
      simp at e0 e1
      exact ⟨(z0, z1), by rw [c0, e0], by rw [c1, e1], i8_bounds w0, u8_bounds w1⟩
    obtain ⟨y, hy⟩ := Deep.choose_lt each
    refine ⟨some a, len, cap, (List.range len).map y, hcs, by simp, fun k hk => ?_⟩
    have hk' : k < len := by simpa using hk
    rw [getD_range y (0, 0) len k hk']
    obtain ⟨c0, c1, h1, h2⟩ := hy k hk'
    obtain ⟨b, off, spot⟩ := a
    have hspot : spot = none := by simpa [Addr.add] using World.cell?_spot (hy 0 (by omega)).1
    subst hspot
    rw [add_plain] at c0 c1
    refine ⟨b, off, rfl, World.block_lt_of_cell? W _ c0, c0, ?_, h1.1, h1.2, h2.1, h2.2⟩
    rw [Nat.add_assoc]; exact c1

theorem row_of {fuel : Nat} {V : Value} {x : DataW H × List MemPlace} (h : DataW.trod enc Yba.prog W 0 (fun _ => true) true fuel 88 [V] = some x) : ∃ a len cap row, V = .slice a len cap ∧ row.length = len ∧ RowAt W a row := by
  rcases Deep.open_slice1 Yba.underlying88 cells89 h with ⟨hcs, _⟩ | ⟨a, len, cap, m, n, V0, D0, P0, hcs, _, hl, _, hm, _, hx⟩
  · simp at hcs
    exact ⟨none, 0, 0, [], hcs, rfl, fun k hk => absurd hk (by simp)⟩
  · simp at hcs
    simp only [if_true] at hm
    have each : ∀ i, i < len → ∃ y : Option Addr × Nat × List (Int × Int), W.cell? (a.add i) = some (.slice y.1 y.2.2.length y.2.1) ∧ ItemsAt W y.1 y.2.2 := fun i hi => by
      obtain ⟨c0, t0⟩ := hx i (by omega)
      obtain ⟨a2, len2, cap2, its, e, rfl, hi⟩ := items_of t0
      exact ⟨(a2, cap2, its), by rw [c0, e], hi⟩
    obtain ⟨y, hy⟩ := Deep.choose_lt each
    refine ⟨some a, len, cap, (List.range len).map fun i => (y i).2.2, hcs, by simp, fun k hk => ?_⟩
    have hk' : k < len := by simpa using hk
    rw [getD_range _ [] len k hk']
    obtain ⟨c0, hi⟩ := hy k hk'
    obtain ⟨b, off, spot⟩ := a
    have hspot : spot = none := by simpa [Addr.add] using World.cell?_spot (hy 0 (by omega)).1
    subst hspot
    rw [add_plain] at c0
    exact ⟨b, off, (y k).1, (y k).2.1, rfl, World.block_lt_of_cell? W _ c0, c0, hi⟩

theorem raw_of {fuel n c : Nat} {a0 : Option Addr} {x : DataW H × List MemPlace} (h : DataW.trod enc Yba.prog W 0 (fun _ => true) true fuel 22 [.slice a0 n c] = some x) : ∃ R, R.length = n ∧ RawArg W a0 R := by
  rcases Deep.open_slice1 Yba.underlying22 cells88 h with ⟨hcs, _⟩ | ⟨a, len, cap, m, nn, V0, D0, P0, hcs, _, hl, _, hm, _, hx⟩
  · simp at hcs
    exact ⟨[], by simp [hcs.2.1], Or.inl rfl⟩
  · simp at hcs
    obtain ⟨rfl, rfl, rfl⟩ := hcs
    simp only [if_true] at hm
    have each : ∀ i, i < n → ∃ y : Option Addr × Nat × List (List (Int × Int)), W.cell? (a.add i) = some (.slice y.1 y.2.2.length y.2.1) ∧ RowAt W y.1 y.2.2 := fun i hi => by
      obtain ⟨c0, t0⟩ := hx i (by omega)
      obtain ⟨a2, len2, cap2, row, e, rfl, hi⟩ := row_of t0
      exact ⟨(a2, cap2, row), by rw [c0, e], hi⟩
    obtain ⟨y, hy⟩ := Deep.choose_lt each
    refine ⟨(List.range n).map fun i => (y i).2.2, by simp, ?_⟩
    by_cases h0 : n = 0
    · exact Or.inl (by simp [h0])
    right
    obtain ⟨b, off, spot⟩ := a
    have hspot : spot = none := by simpa [Addr.add] using World.cell?_spot (hy 0 (by omega)).1
    subst hspot
    refine ⟨b, off, rfl, fun k hk => ?_⟩
    have hk' : k < n := by simpa using hk
    rw [getD_range _ [] n k hk']
    obtain ⟨c0, hi⟩ := hy k hk'
    rw [add_plain] at c0
    exact ⟨(y k).1, (y k).2.1, World.block_lt_of_cell? W _ c0, c0, hi⟩
end

end Go.Proofs.Ybulkluw
