/-
  Seat b0620a. THE PLAIN FUNCTIONS of the laws S0620C: a price's float, a quantity's units, one item's term, the sum in the bundle's order; and what lies where: prices' floats, bundles. No walk here.
-/
import Derived.Test.YbulkluwBuildInv
import Derived.Test.YbulkluwFloat
namespace Go.Proofs.Ybulkluw
open Go.RowKit

def Ok16 (v : Int) : Prop := -32768 ≤ v ∧ v ≤ 32767

/-- float64(v) / 8 -/
def pF (v : Int) : Nat := fquo (floatOfInt .f64 v) 4620693217682128896
/-- float64(q) / 1000 -/
def uF (q : Int) : Nat := fquo (floatOfInt .f64 q) 4652007308841189376
def term (P : List Int) (it : Nat × Int) : Nat := fmul (pF (P.getD it.1 0)) (uF it.2)
def costF (P : List Int) (L : List (Nat × Int)) : Nat := L.foldl (fun s it => fadd s (term P it)) 0

theorem read8 : Ieee.double.read 4620693217682128896 = .number false 4503599627370496 (-49) := by decide
theorem read1000 : Ieee.double.read 4652007308841189376 = .number false 8796093022208000 (-43) := by decide
theorem seven_notNaN : NotNaN 4619567317775286272 := Or.inl ⟨false, 7881299347898368, -50, by decide⟩

theorem pF_ok (v : Int) (h : Ok16 v) : floatBits .quo .f64 (floatOfInt .f64 v) 4620693217682128896 = some (pF v) ∧ FinF 70 (pF v) := by
  have := quo_fin (ofInt_fin v (by have := h.1; omega) (by have := h.2; omega)) read8 (by decide) (by decide) (by decide) (by decide) (by decide) (by decide)
  exact this
theorem uF_ok (q : Int) (h : Ok16 q) : floatBits .quo .f64 (floatOfInt .f64 q) 4652007308841189376 = some (uF q) ∧ FinF 70 (uF q) := by
  have := quo_fin (ofInt_fin q (by have := h.1; omega) (by have := h.2; omega)) read1000 (by decide) (by decide) (by decide) (by decide) (by decide) (by decide)
  exact this
theorem term_ok (p q : Int) (hp : Ok16 p) (hq : Ok16 q) : floatBits .mul .f64 (pF p) (uF q) = some (fmul (pF p) (uF q)) ∧ FinF 196 (fmul (pF p) (uF q)) :=
  mul_fin (pF_ok p hp).2 (uF_ok q hq).2 (by decide) (by decide)

theorem costF_next (P : List Int) (L : List (Nat × Int)) (k : Nat) (h : k < L.length) : costF P (L.take (k + 1)) = fadd (costF P (L.take k)) (term P (L.getD k (0, 0))) := by
  unfold costF
  rw [take_next L (0, 0) k h, List.foldl_append]
  rfl

/-- The prices' floats lie at block PB. -/
def PfAt (w : World) (PB : Nat) (P : List Int) : Prop :=
  PB < w.heap.size ∧ ∀ i, i < P.length → w.cell? ⟨PB, i, none⟩ = some (.float .f64 (pF (P.getD i 0))) ∧ Ok16 (P.getD i 0)
/-- The bundle's items lie where the slice's pointer says. -/
def BunAt (w : World) (a : Option Addr) (L : List (Nat × Int)) (n : Nat) : Prop :=
  ∀ k, k < L.length → ∃ BB, a = some ⟨BB, 0, none⟩ ∧ BB < w.heap.size ∧ w.cell? ⟨BB, k * 2, none⟩ = some (.int .i64 ((L.getD k (0, 0)).1 : Nat)) ∧ w.cell? ⟨BB, k * 2 + 1, none⟩ = some (.int .i64 (L.getD k (0, 0)).2) ∧ (L.getD k (0, 0)).1 < n ∧ Ok16 (L.getD k (0, 0)).2

theorem PfAt.below {N : Nat} {w w' : World} {PB : Nat} {P : List Int} (h : PfAt w PB P) (hb : Below N w w') (hB : PB < N) : PfAt w' PB P :=
  ⟨Nat.lt_of_lt_of_le h.1 hb.size, fun i hi => by rw [hb.cell (p := ⟨PB, i, none⟩) hB]; exact h.2 i hi⟩
theorem PfAt.set {w : World} {PB X o : Nat} {v : Value} {P : List Int} (h : PfAt w PB P) (hX : X ≠ PB) : PfAt (w.setCell ⟨X, o, none⟩ v) PB P :=
  ⟨by simpa [World.setCell] using h.1, fun i hi => by rw [set_other (by omega)]; exact h.2 i hi⟩
theorem BunAt.below {N : Nat} {w w' : World} {a : Option Addr} {L : List (Nat × Int)} {n : Nat} (h : BunAt w a L n) (hb : Below N w w') (hB : w.heap.size ≤ N) : BunAt w' a L n := fun k hk => by
  obtain ⟨BB, h1, h2, h3, h4, h5⟩ := h k hk
  refine ⟨BB, h1, Nat.lt_of_lt_of_le h2 hb.size, ?_, ?_, h5⟩
  · rw [hb.cell (p := ⟨BB, k * 2, none⟩) (by simp; omega)]; exact h3
  · rw [hb.cell (p := ⟨BB, k * 2 + 1, none⟩) (by simp; omega)]; exact h4
theorem BunAt.set {w : World} {X o : Nat} {v : Value} {a : Option Addr} {L : List (Nat × Int)} {n : Nat} (h : BunAt w a L n) (hX : ∀ BB, a = some ⟨BB, 0, none⟩ → X ≠ BB) : BunAt (w.setCell ⟨X, o, none⟩ v) a L n := fun k hk => by
  obtain ⟨BB, h1, h2, h3, h4, h5⟩ := h k hk
  have := hX BB h1
  refine ⟨BB, h1, by simpa [World.setCell] using h2, ?_, ?_, h5⟩
  · rw [set_other (by omega)]; exact h3
  · rw [set_other (by omega)]; exact h4

theorem costF_notNaN {w : World} {PB : Nat} {P : List Int} {a : Option Addr} {L : List (Nat × Int)} (hP : PfAt w PB P) (hL : BunAt w a L P.length) (k : Nat) (hk : k ≤ L.length) : NotNaN (costF P (L.take k)) := by
  induction k with
  | zero => exact zero_fin.notNaN
  | succ k ih =>
    rw [costF_next P L k hk]
    obtain ⟨BB, _, _, _, _, h5, h6⟩ := hL k hk
    exact (add_ok (ih (by omega)) (term_ok _ _ (hP.2 _ h5).2 h6).2).2

end Go.Proofs.Ybulkluw
