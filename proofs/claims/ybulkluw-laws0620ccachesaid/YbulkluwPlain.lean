/-
  Seat b0620a. THE PLAIN FUNCTIONS of the laws S0620B: sums of absolute quantities, the largest of them, the multiple that fits. No program here.
-/
import Derived.RowKit
import Derived.WalkArith
namespace Go.Proofs.Ybulkluw

/-- One item's quantity. -/
def qOf (m s : Int) : Int := m * 2 ^ (47 - s % 48).toNat
def sumAbs (l : List Int) : Int := l.foldl (fun a q => a + q.natAbs) 0
def lgRow (a : Int) (row : List (List Int)) : Int := row.foldl (fun a l => max a (sumAbs l)) a
def lg (Q : List (List (List Int))) : Int := Q.foldl lgRow 1
def mmOf (L : Int) : Int := max (min 1000000 (4611686018427387903 / L)) 1

theorem qOf_bound (m s : Int) (h1 : -128 ≤ m) (h2 : m ≤ 127) : -18014398509481984 ≤ qOf m s ∧ qOf m s ≤ 18014398509481984 := by
  have he : (47 - s % 48).toNat ≤ 47 := by omega
  have hp : (0 : Int) < 2 ^ (47 - s % 48).toNat := Int.pow_pos (by decide)
  have hq : (2 : Int) ^ (47 - s % 48).toNat ≤ 2 ^ 47 := by
    have := Nat.pow_le_pow_right (show 0 < 2 by decide) he
    exact_mod_cast this
  have e47 : (2 : Int) ^ 47 = 140737488355328 := by decide
  rw [e47] at hq
  unfold qOf
  generalize (2 : Int) ^ (47 - s % 48).toNat = x at *
  constructor
  · have : (-128) * x ≤ m * x := Int.mul_le_mul_of_nonneg_right h1 (by omega)
    omega
  · have : m * x ≤ 127 * x := Int.mul_le_mul_of_nonneg_right h2 (by omega)
    omega

theorem take_next {α : Type} (l : List α) (d : α) (k : Nat) (h : k < l.length) : l.take (k + 1) = l.take k ++ [l.getD k d] := by
  rw [List.take_succ_eq_append_getElem h, List.getD_eq_getElem?_getD, List.getElem?_eq_getElem h]
  rfl

theorem sumAbs_next (l : List Int) (k : Nat) (h : k < l.length) : sumAbs (l.take (k + 1)) = sumAbs (l.take k) + (l.getD k 0).natAbs := by
  unfold sumAbs
  rw [take_next l 0 k h, List.foldl_append]
  rfl
theorem lgRow_next (a : Int) (row : List (List Int)) (k : Nat) (h : k < row.length) : lgRow a (row.take (k + 1)) = max (lgRow a (row.take k)) (sumAbs (row.getD k [])) := by
  unfold lgRow
  rw [take_next row [] k h, List.foldl_append]
  rfl
theorem lg_next (Q : List (List (List Int))) (k : Nat) (h : k < Q.length) : lg (Q.take (k + 1)) = lgRow (lg (Q.take k)) (Q.getD k []) := by
  unfold lg
  rw [take_next Q [] k h, List.foldl_append]
  rfl

/-- What a kind's data keep to: the lengths, and each quantity's size. -/
def Small (Q : List (List (List Int))) : Prop :=
  Q.length ≤ 64 ∧ ∀ row ∈ Q, row.length ≤ 64 ∧ ∀ l ∈ row, l.length ≤ 256 ∧ ∀ q ∈ l, -18014398509481984 ≤ q ∧ q ≤ 18014398509481984

theorem sumAbs_bound (l : List Int) (h : ∀ q ∈ l, -18014398509481984 ≤ q ∧ q ≤ 18014398509481984) (k : Nat) (hk : k ≤ l.length) : 0 ≤ sumAbs (l.take k) ∧ sumAbs (l.take k) ≤ k * 18014398509481984 := by
  induction k with
  | zero => simp [sumAbs]
  | succ k ih =>
    have := ih (by omega)
    rw [sumAbs_next l k (by omega)]
    have hq := h (l.getD k 0) (by rw [List.getD_eq_getElem?_getD, List.getElem?_eq_getElem (show k < l.length by omega)]; exact List.getElem_mem _)
    omega

theorem lgRow_bound (a : Int) (row : List (List Int)) (ha : 1 ≤ a ∧ a ≤ 4611686018427387904) (h : ∀ l ∈ row, l.length ≤ 256 ∧ ∀ q ∈ l, -18014398509481984 ≤ q ∧ q ≤ 18014398509481984) (k : Nat) (hk : k ≤ row.length) : 1 ≤ lgRow a (row.take k) ∧ lgRow a (row.take k) ≤ 4611686018427387904 := by
  induction k with
  | zero => simpa [lgRow] using ha
  | succ k ih =>
    have := ih (by omega)
    rw [lgRow_next a row k (by omega)]
    have hl := h (row.getD k []) (by rw [List.getD_eq_getElem?_getD, List.getElem?_eq_getElem (show k < row.length by omega)]; exact List.getElem_mem _)
    have hs := sumAbs_bound _ hl.2 _ (Nat.le_refl _)
    rw [List.take_length] at hs
    omega

theorem lg_bound (Q : List (List (List Int))) (h : Small Q) (k : Nat) (hk : k ≤ Q.length) : 1 ≤ lg (Q.take k) ∧ lg (Q.take k) ≤ 4611686018427387904 := by
  induction k with
  | zero => simp [lg]
  | succ k ih =>
    rw [lg_next Q k (by omega)]
    have hr := h.2 (Q.getD k []) (by rw [List.getD_eq_getElem?_getD, List.getElem?_eq_getElem (show k < Q.length by omega)]; exact List.getElem_mem _)
    have := lgRow_bound _ (Q.getD k []) (ih (by omega)) hr.2 _ (Nat.le_refl _)
    rwa [List.take_length] at this

theorem natAbs_max (q : Int) : max q (-q) = (q.natAbs : Int) := by omega

end Go.Proofs.Ybulkluw
