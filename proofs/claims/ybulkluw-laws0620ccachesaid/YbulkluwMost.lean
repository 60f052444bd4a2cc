/-
  Seat b0620a. mostMultiple (9), by its contract, over kinds that lie in memory as 'KindsAt' says.
-/
import Derived.Test.YbulkluwBq
namespace Go.Proofs.Ybulkluw
open Go.RowKit
attribute [local go_sem] run_store_float

/-- The items of a bundle, two cells each: pool 0, the quantity. -/
def BundAt (w : World) (BB : Nat) (l : List Int) : Prop :=
  ∀ k, k < l.length → w.cell? ⟨BB, k * 2, none⟩ = some (.int .i64 0) ∧ w.cell? ⟨BB, k * 2 + 1, none⟩ = some (.int .i64 (l.getD k 0))

/-- An option's ten cells, its bundle in the third. -/
def optCells (v : Value) : List Value := [.float .f64 0, .float .f64 0, v, .int .i32 0, .int .i32 0, .int .i32 0, .int .i32 0, .int .i64 0, .int .u8 0, .bool false]

def OptsAt (w : World) (OB : Nat) (row : List (List Int)) : Prop :=
  ∀ j, j < row.length → ∃ BB, BB < w.heap.size ∧ (∀ c, c < 10 → w.cell? ⟨OB, j * 10 + c, none⟩ = some ((optCells (.slice (some ⟨BB, 0, none⟩) (row.getD j []).length (row.getD j []).length)).getD c undef)) ∧ BundAt w BB (row.getD j [])

def KindsAt (w : World) (KB : Nat) (Q : List (List (List Int))) : Prop :=
  ∀ i, i < Q.length → ∃ OB, OB < w.heap.size ∧ w.cell? ⟨KB, i * 43 + 15, none⟩ = some (.slice (some ⟨OB, 0, none⟩) (Q.getD i []).length (Q.getD i []).length) ∧ OptsAt w OB (Q.getD i [])

theorem val_int {k : IntKind} {a b : Int} (h : a = b) : Value.int k a = .int k b := by rw [h]

set_option maxHeartbeats 2000000 in
theorem most (w : World) (KB : Nat) (Q : List (List (List Int))) (hK : KB < w.heap.size) (hQ : Small Q) (hk : KindsAt w KB Q) (n : Nat) (hn : n = Q.length) :
    Calls Yba.prog 9 #[.slice (some ⟨KB, 0, none⟩) n n] w fun e w' => e = .returned (.int .i64 (mmOf (lg Q))) ∧ Below w.heap.size w w' := by
  have hn64 : n ≤ 64 := by rw [hn]; exact hQ.1
  have HN : Hid (n = Q.length) := hn
  have HQ : Hid (Small Q) := hQ
  have HKA : Hid (KindsAt w KB Q) := hk
  clear hn hQ hk
  go_enter Yba.func9, Yba.ntmps9
  go_wp2
  go_loopw [3, 12] (fun lv iv wr => ∃ i : Nat, i ≤ n ∧ iv = .int .i64 i ∧ lv = .int .i64 (lg (Q.take i)) ∧ Hid (Below w.heap.size w wr)) (fun _ iv _ => n - (intOf iv).toNat)
  case atStart => exact ⟨0, Nat.zero_le _, rfl, rfl, Below.refl _ _⟩
  case round =>
    obtain ⟨i, hin, rfl, rfl, hbel⟩ := hrel
    have hlb := lg_bound Q HQ.out i (by rw [← HN.out]; exact hin)
    by_cases hlt : i < n
    · obtain ⟨OB, hOB, hcell, hopts⟩ := HKA.out i (by rw [← HN.out]; exact hlt)
      have hcell' : wr.cell? ⟨KB, i * 43 + 15, none⟩ = some (.slice (some ⟨OB, 0, none⟩) (Q.getD i []).length (Q.getD i []).length) := by rw [hbel.out.cell (p := ⟨KB, i * 43 + 15, none⟩) hK]; exact hcell
      obtain ⟨row, hrow⟩ : ∃ row, Hid (row = Q.getD i []) := ⟨_, rfl⟩
      rw [← hrow.out] at hcell'
      have hmem : Q.getD i [] ∈ Q := by rw [List.getD_eq_getElem?_getD, List.getElem?_eq_getElem (show i < Q.length by rw [← HN.out]; exact hlt)]; exact List.getElem_mem _
      have HROW : Hid (row.length ≤ 64 ∧ ∀ l ∈ row, l.length ≤ 256 ∧ ∀ q ∈ l, -18014398509481984 ≤ q ∧ q ≤ 18014398509481984) := by rw [hrow.out]; exact HQ.out.2 _ hmem
      have hrl := HROW.out.1
      obtain ⟨m, hm⟩ : ∃ m, Hid (m = row.length) := ⟨_, rfl⟩
      rw [← hm.out] at hcell' hrl
      clear hcell hmem
      have HO : Hid (OptsAt w OB row) := by rw [hrow.out]; exact hopts
      clear hopts
      go_wp2
      go_loopw [3, 21] (fun lv jv wr => ∃ j : Nat, j ≤ m ∧ jv = .int .i64 j ∧ lv = .int .i64 (lgRow (lg (Q.take i)) (row.take j)) ∧ Hid (Below w.heap.size w wr)) (fun _ jv _ => m - (intOf jv).toNat)
      case atStart => exact ⟨0, Nat.zero_le _, rfl, rfl, hbel⟩
      case round =>
        clear hcell' hbel
        obtain ⟨j, hjm, rfl, rfl, hbel⟩ := hrel
        have hrb := lgRow_bound (lg (Q.take i)) row hlb HROW.out.2 j (by rw [← hm.out]; exact hjm)
        by_cases hlt2 : j < m
        · obtain ⟨BB, hBB, hoc, hbund⟩ := HO.out j (by rw [← hm.out]; exact hlt2)
          obtain ⟨l, hl⟩ : ∃ l, Hid (l = row.getD j []) := ⟨_, rfl⟩
          obtain ⟨ln, hln⟩ : ∃ ln, Hid (ln = l.length) := ⟨_, rfl⟩
          have hoc' : ∀ c, c < 10 → wr.cell? ⟨OB, j * 10 + c, none⟩ = some ((optCells (.slice (some ⟨BB, 0, none⟩) ln ln)).getD c undef) := fun c hc => by
            rw [hbel.out.cell (p := ⟨OB, j * 10 + c, none⟩) hOB, hoc c hc, hln.out, hl.out]
          have o0 := hoc' 0 (by omega)
          have o1 := hoc' 1 (by omega)
          have o2 := hoc' 2 (by omega)
          have o3 := hoc' 3 (by omega)
          have o4 := hoc' 4 (by omega)
          have o5 := hoc' 5 (by omega)
          have o6 := hoc' 6 (by omega)
          have o7 := hoc' 7 (by omega)
          have o8 := hoc' 8 (by omega)
          have o9 := hoc' 9 (by omega)
          simp only [optCells, List.getD_cons_zero, List.getD_cons_succ, Nat.add_zero] at o0 o1 o2 o3 o4 o5 o6 o7 o8 o9
          have HBU : Hid (BundAt w BB l) := by rw [hl.out]; exact hbund
          have hlm : row.getD j [] ∈ row := by rw [List.getD_eq_getElem?_getD, List.getElem?_eq_getElem (show j < row.length by rw [← hm.out]; exact hlt2)]; exact List.getElem_mem _
          have HL : Hid (l.length ≤ 256 ∧ ∀ q ∈ l, -18014398509481984 ≤ q ∧ q ≤ 18014398509481984) := by rw [hl.out]; exact HROW.out.2 _ hlm
          have hln256 : ln ≤ 256 := by rw [hln.out]; exact HL.out.1
          have HBA : Hid (∀ o, Below w.heap.size w (wr.alloc o)) := fun o => hbel.out.alloc hbel.out.size o
          clear hoc hoc' hlm hbund
          go_wp2
          clear o0 o1 o2 o3 o4 o5 o6 o7 o8 o9
          go_loopw [7, 28] (fun sv kv wr => ∃ k : Nat, k ≤ ln ∧ kv = .int .i64 k ∧ sv = .int .i64 (sumAbs (l.take k)) ∧ Hid (Below w.heap.size w wr)) (fun _ kv _ => ln - (intOf kv).toNat)
          case atStart => exact ⟨0, Nat.zero_le _, rfl, rfl, HBA.out _⟩
          case round =>
            clear HBA hbel
            obtain ⟨k, hkl, rfl, rfl, hbel⟩ := hrel
            have hsb := sumAbs_bound l HL.out.2 k (by rw [← hln.out]; exact hkl)
            by_cases hlt3 : k < ln
            · obtain ⟨c0, c1⟩ := HBU.out k (by rw [← hln.out]; exact hlt3)
              have c0' : wr.cell? ⟨BB, k * 2, none⟩ = some (.int .i64 0) := by rw [hbel.out.cell (p := ⟨BB, k * 2, none⟩) hBB]; exact c0
              have c1' : wr.cell? ⟨BB, k * 2 + 1, none⟩ = some (.int .i64 (l.getD k 0)) := by rw [hbel.out.cell (p := ⟨BB, k * 2 + 1, none⟩) hBB]; exact c1
              have hq : -18014398509481984 ≤ l.getD k 0 ∧ l.getD k 0 ≤ 18014398509481984 := HL.out.2 _ (by rw [List.getD_eq_getElem?_getD, List.getElem?_eq_getElem (show k < l.length by rw [← hln.out]; exact hlt3)]; exact List.getElem_mem _)
              have HS : Hid (sumAbs (l.take (k + 1)) = sumAbs (l.take k) + (l.getD k 0).natAbs) := sumAbs_next l k (by rw [← hln.out]; exact hlt3)
              obtain ⟨q, hqe⟩ : ∃ q, Hid (q = l.getD k 0) := ⟨_, rfl⟩
              rw [← hqe.out] at c1' hq HS
              obtain ⟨hq1, hq2⟩ := hq
              clear c0 c1
              have HBA : Hid (∀ o, Below w.heap.size w (wr.alloc o)) := fun o => hbel.out.alloc hbel.out.size o
              go_wp2
              go_roundw
              case rel => exact ⟨k + 1, by omega, by go_num, val_int (by rw [HS.out]; split <;> omega), HBA.out _⟩
              case measure => simp [intOf]; omega
            · have e : k = ln := by omega
              subst e
              have HT : Hid (l.take k = l) := by rw [hln.out]; exact List.take_length
              have HS : Hid (lgRow (lg (Q.take i)) (row.take (j + 1)) = max (lgRow (lg (Q.take i)) (row.take j)) (sumAbs l)) := by rw [hl.out]; exact lgRow_next _ row j (by rw [← hm.out]; exact hlt2)
              rw [HT.out]
              rw [HT.out] at hsb
              go_wp2
              go_roundw
              case rel => exact ⟨j + 1, by omega, by go_num, val_int (by rw [HS.out]; split <;> omega), hbel⟩
              case measure => simp [intOf]; omega
        · have e : j = m := by omega
          subst e
          have HT : Hid (row.take j = row) := by rw [hm.out]; exact List.take_length
          have HS : Hid (lg (Q.take (i + 1)) = lgRow (lg (Q.take i)) row) := by rw [hrow.out]; exact lg_next Q i (by rw [← HN.out]; exact hlt)
          rw [HT.out]
          go_wp2
          go_roundw
          case rel => exact ⟨i + 1, by omega, by go_num, val_int HS.out.symm, hbel⟩
          case measure => simp [intOf]; omega
    · have e : i = n := by omega
      subst e
      have HT : Hid (Q.take i = Q) := by rw [HN.out]; exact List.take_length
      rw [HT.out]
      rw [HT.out] at hlb
      obtain ⟨L, hL⟩ : ∃ L, Hid (L = lg Q) := ⟨_, rfl⟩
      rw [← hL.out]
      rw [← hL.out] at hlb
      go_wp2
      all_goals
        go_ret
        exact ⟨ret_int (by rw [← hL.out]; unfold mmOf; omega), hbel.out⟩

end Go.Proofs.Ybulkluw
