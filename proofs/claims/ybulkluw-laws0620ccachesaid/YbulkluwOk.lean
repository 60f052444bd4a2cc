/-
  Seat b0620a. How the raw data lie in memory; zzs0620bok (7), by its contract.
-/
import Derived.Test.YbulkluwBq
namespace Go.Proofs.Ybulkluw
open Go.RowKit

/-- A slice of items (two cells each) reads as its. -/
def ItemsAt (w : World) (a : Option Addr) (its : List (Int × Int)) : Prop :=
  ∀ k, k < its.length → ∃ b off, a = some ⟨b, off, none⟩ ∧ b < w.heap.size ∧ w.cell? ⟨b, off + k * 2, none⟩ = some (.int .i8 (its.getD k (0, 0)).1) ∧ w.cell? ⟨b, off + k * 2 + 1, none⟩ = some (.int .u8 (its.getD k (0, 0)).2) ∧
    -128 ≤ (its.getD k (0, 0)).1 ∧ (its.getD k (0, 0)).1 ≤ 127 ∧ 0 ≤ (its.getD k (0, 0)).2 ∧ (its.getD k (0, 0)).2 ≤ 255
def RowAt (w : World) (a : Option Addr) (row : List (List (Int × Int))) : Prop :=
  ∀ j, j < row.length → ∃ b off a2 c2, a = some ⟨b, off, none⟩ ∧ b < w.heap.size ∧ w.cell? ⟨b, off + j, none⟩ = some (.slice a2 (row.getD j []).length c2) ∧ ItemsAt w a2 (row.getD j [])
def RawAt (w : World) (b off : Nat) (R : List (List (List (Int × Int)))) : Prop :=
  ∀ i, i < R.length → ∃ a1 c1, b < w.heap.size ∧ w.cell? ⟨b, off + i, none⟩ = some (.slice a1 (R.getD i []).length c1) ∧ RowAt w a1 (R.getD i [])

def SmallR (R : List (List (List (Int × Int)))) : Prop :=
  R.length ≤ 64 ∧ ∀ i, i < R.length → (R.getD i []).length ≤ 64 ∧ ∀ j, j < (R.getD i []).length → ((R.getD i []).getD j []).length ≤ 256

/-- It answers a bool; if true, the data are small. -/
def OkPost (R : List (List (List (Int × Int)))) (e : Ending) : Prop := ∃ r, e = .returned (.bool r) ∧ (r = true → SmallR R)
theorem ok_no (R : List (List (List (Int × Int)))) : OkPost R (.returned (.bool false)) := ⟨false, rfl, fun h => by cases h⟩
theorem ok_yes (R : List (List (List (Int × Int)))) (h : SmallR R) : OkPost R (.returned (.bool true)) := ⟨true, rfl, fun _ => h⟩

set_option maxHeartbeats 400000 in
theorem ok_zero (a : Option Addr) (c : Nat) (w : World) : Calls Yba.prog 7 #[.slice a 0 c] w fun e w' => e = .returned (.bool true) ∧ w' = w := by
  go_enter Yba.func7, Yba.ntmps7
  go_wp2
  refine wp_loop_rounds 1 ?_
  rw [rounds_succ]
  go_wp2
  go_ret
  exact ⟨rfl, rfl⟩

set_option maxHeartbeats 1000000 in
theorem ok_some (w : World) (b off c : Nat) (R : List (List (List (Int × Int)))) (hR : RawAt w b off R) (n : Nat) (hn : n = R.length) :
    Calls Yba.prog 7 #[.slice (some ⟨b, off, none⟩) n c] w fun e w' => OkPost R e ∧ w' = w := by
  have HN : Hid (n = R.length) := hn
  have HR : Hid (RawAt w b off R) := hR
  clear hn hR
  by_cases hbig : 64 < n
  · go_enter Yba.func7, Yba.ntmps7
    go_wp2
    all_goals first | (go_ret; exact ⟨ok_no R, rfl⟩) | skip
  · go_enter Yba.func7, Yba.ntmps7
    go_wp2
    go_loop [3] (fun iv => ∃ i : Nat, i ≤ n ∧ iv = .int .i64 i ∧ Hid (∀ i', i' < i → (R.getD i' []).length ≤ 64 ∧ ∀ j, j < (R.getD i' []).length → ((R.getD i' []).getD j []).length ≤ 256)) (fun iv => n - (intOf iv).toNat)
    case atStart => exact ⟨0, Nat.zero_le _, rfl, fun i' h => absurd h (by omega)⟩
    case round =>
      obtain ⟨i, hin, rfl, hI⟩ := hrel
      by_cases hlt : i < n
      · obtain ⟨a1, c1, hb, hcell, hrow⟩ := HR.out i (by rw [← HN.out]; exact hlt)
        obtain ⟨row, hre⟩ : ∃ row, Hid (row = R.getD i []) := ⟨_, rfl⟩
        obtain ⟨m, hm⟩ : ∃ m, Hid (m = row.length) := ⟨_, rfl⟩
        rw [← hre.out, ← hm.out] at hcell
        have HROW : Hid (RowAt w a1 row) := by rw [hre.out]; exact hrow
        clear hrow
        by_cases hbig2 : 64 < m
        · go_wp2
          go_ret
          exact ⟨ok_no R, rfl⟩
        · go_wp2
          go_loop [4] (fun jv => ∃ j : Nat, j ≤ m ∧ jv = .int .i64 j ∧ Hid (∀ j', j' < j → (row.getD j' []).length ≤ 256)) (fun jv => m - (intOf jv).toNat)
          case atStart => exact ⟨0, Nat.zero_le _, rfl, fun i' h => absurd h (by omega)⟩
          case round =>
            obtain ⟨j, hjm, rfl, hJ⟩ := hrel
            by_cases hlt2 : j < m
            · obtain ⟨b1, off1, a2, c2, ha1, hb1, hcell2, -⟩ := HROW.out j (by rw [← hm.out]; exact hlt2)
              rw [ha1] at hcell
              obtain ⟨ln, hln⟩ : ∃ ln, Hid (ln = (row.getD j []).length) := ⟨_, rfl⟩
              rw [← hln.out] at hcell2
              have HA : Hid (a1 = some ⟨b1, off1, none⟩) := ha1
              clear ha1
              by_cases hbig3 : 256 < ln
              · go_wp2
                go_ret
                exact ⟨ok_no R, rfl⟩
              · go_wp2
                go_round
                case rel => exact ⟨j + 1, by omega, by go_num, fun j' hj' => by
                  by_cases e : j' < j
                  · exact hJ.out j' e
                  · have e2 : j' = j := by omega
                    rw [e2, ← hln.out]
                    omega⟩
                case measure => simp [intOf]; omega
            · have e : j = m := by omega
              subst e
              go_wp2
              go_round
              case rel => exact ⟨i + 1, by omega, by go_num, fun i' hi' => by
                by_cases e : i' < i
                · exact hI.out i' e
                · have e2 : i' = i := by omega
                  rw [e2, ← hre.out, ← hm.out]
                  exact ⟨by omega, hJ.out⟩⟩
              case measure => simp [intOf]; omega
      · have e : i = n := by omega
        subst e
        go_wp2
        go_ret
        exact ⟨ok_yes R ⟨by rw [← HN.out]; omega, by rw [← HN.out]; exact hI.out⟩, rfl⟩

end Go.Proofs.Ybulkluw
