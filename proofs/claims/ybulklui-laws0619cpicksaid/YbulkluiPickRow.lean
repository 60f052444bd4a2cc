/-
  Seat b0619a. LawS0619CPick (7): the walk with a side table.
-/
import Derived.Test.YbulkluiPickWalk
namespace Go.Proofs.Ybulklui.lawS0619CPick
open Go.RowKit

/-- The new row's cells when k of its n numbers have been laid. -/
def fill (zs : List Int) (n k : Nat) : Array Value := ((zs.take k ++ List.replicate (n - k) 0).map (Value.int .u8)).toArray

theorem fill_size (zs : List Int) (n k : Nat) (h : k ≤ n) (hz : n ≤ zs.length) : (fill zs n k).size = n := by
  simp [fill]; omega
theorem fill_made (zs : List Int) (n : Nat) : madeCells #[.int .u8 0] n = fill zs n 0 := by
  apply Array.ext
  · simp [madeCells, fill]
  · intro i h1 h2
    simp [madeCells, fill, Nat.mod_one]
theorem fill_at (zs : List Int) (n k j : Nat) (h : k ≤ n) (hz : n ≤ zs.length) (hj : j < n) : (fill zs n k)[j]? = some (.int .u8 (if j < k then zs.getD j 0 else 0)) := by
  simp only [fill, List.getElem?_toArray, List.getElem?_map, List.getElem?_append, List.length_take]
  by_cases h1 : j < k
  · rw [if_pos (by omega), List.getElem?_take, if_pos h1]
    simp [h1, List.getElem?_eq_getElem (show j < zs.length by omega)]
  · rw [if_neg (by omega), List.getElem?_replicate, if_pos (by omega)]
    simp [h1]
theorem fill_step (zs : List Int) (n k : Nat) (h : k < n) (hz : n ≤ zs.length) : (fill zs n k).setIfInBounds k (.int .u8 (zs.getD k 0)) = fill zs n (k + 1) := by
  apply Array.ext_getElem?
  intro j
  rw [Array.getElem?_setIfInBounds, fill_size zs n k (by omega) hz]
  by_cases hj : j < n
  · rw [fill_at zs n k j (by omega) hz hj, fill_at zs n (k + 1) j (by omega) hz hj]
    by_cases e : k = j
    · subst e; simp [h]
    · simp only [e, if_false]
      by_cases h1 : j < k
      · simp [h1, show j < k + 1 by omega]
      · simp [h1, show ¬ j < k + 1 by omega]
  · have e1 : (fill zs n k)[j]? = none := Array.getElem?_eq_none (by rw [fill_size zs n k (by omega) hz]; omega)
    have e2 : (fill zs n (k + 1))[j]? = none := Array.getElem?_eq_none (by rw [fill_size zs n (k + 1) (by omega) hz]; omega)
    rw [e1, e2, if_neg (by omega)]

abbrev G (n : Int) : Obj := .cells #[.int .i64 n, .slice none 0 0, .slice none 0 0, .slice none 0 0, .int .i64 0, .int .i64 0, .slice none 0 0, .slice none 0 0, .slice none 0 0, .slice none 0 0] 55
abbrev MG (B : Nat) : Obj := .cells #[.pointer (some ⟨B, 0, none⟩), .pointer (some ⟨B + 1, 0, none⟩), .bool false, .map (some (B + 1 + 1)), .slice none 0 0, .slice none 0 0, .int .u64 0, .int .i64 0, .slice none 0 0, .slice none 0 0, .int .i64 0, .slice none 0 0, .slice none 0 0, .bool false,
  .slice none 0 0, .slice none 0 0, .slice none 0 0, .slice none 0 0, .pointer none, .slice none 0 0, .slice none 0 0, .slice none 0 0, .pointer none, .slice none 0 0, .slice none 0 0, .slice none 0 0, .pointer none,
  .slice none 0 0, .slice none 0 0, .slice none 0 0, .slice none 0 0, .slice none 0 0, .slice none 0 0, .slice none 0 0, .slice none 0 0, .slice none 0 0, .slice none 0 0, .slice none 0 0, .slice none 0 0] 72

theorem other_at (w : World) (c0 c1 : Array Value) (t0 t1 : TypeId) (o2 o3 o4 : Obj) :
    (binOp .neq 48 (.pointer (some ⟨w.heap.size + 1, 0, none⟩)) (.pointer (some ⟨w.heap.size, 0, none⟩))).run Yba.prog (((((w.alloc (.cells c0 t0)).alloc (.cells c1 t1)).alloc o2).alloc o3).alloc o4) = .ok (.bool true) (((((w.alloc (.cells c0 t0)).alloc (.cells c1 t1)).alloc o2).alloc o3).alloc o4) := by
  refine neq_other (ca := c1) (cb := c0) (ta := t1) (tb := t0) _ (by simp) ?_ ?_
  · show (((((w.heap.push _).push _).push _).push _).push _)[w.heap.size + 1]? = _
    simp only [Array.getElem?_push, Array.size_push]
    rw [if_neg (by omega), if_neg (by omega), if_neg (by omega), if_pos trivial]
  · show (((((w.heap.push _).push _).push _).push _).push _)[w.heap.size]? = _
    simp only [Array.getElem?_push, Array.size_push]
    rw [if_neg (by omega), if_neg (by omega), if_neg (by omega), if_neg (by omega), if_pos trivial]

theorem idx_ok (a2 : Int) (n : Nat) (h0 : 0 < n) (h : n ≤ 4096) : ∃ j : Nat, j < n ∧ wrap64 ((IntKind.u64.wrap a2).tmod (n : Int)) = (j : Int) := by
  have h1 : 0 ≤ IntKind.u64.wrap a2 := by simp [IntKind.wrap, IntKind.signed, IntKind.bits]; omega
  rw [Int.tmod_eq_emod_of_nonneg h1]
  have h2 := Int.emod_nonneg (IntKind.u64.wrap a2) (show (n : Int) ≠ 0 by omega)
  have h3 := Int.emod_lt_of_pos (IntKind.u64.wrap a2) (show (0 : Int) < n by omega)
  refine ⟨((IntKind.u64.wrap a2) % (n : Int)).toNat, by omega, ?_⟩
  rw [IntWalk.wrap64_in _ ⟨by omega, by omega⟩]
  omega

set_option maxRecDepth 100000 in
set_option maxHeartbeats 1000000 in
theorem walk_row (b off len0 cap0 : Nat) (zs : List Int) (a2 : Int) (w : World) (h0 : 0 < len0) (h : len0 ≤ 4096) (hz : len0 ≤ zs.length)
    (hc : ∀ i, i < len0 → w.cell? ⟨b, off + i, none⟩ = some (.int .u8 (zs.getD i 0))) (hb : b < w.heap.size) :
    Calls Yba.prog 7 #[.slice (some ⟨b, off, none⟩) len0 cap0, .bool false, .int .i64 a2] w fun e w' => e = .returned (.bool true) ∧ Below w.heap.size w w' := by
  have hmm := @run_makeMap Yba.prog
  have hmk := run_make_row' (P := Yba.prog) 58 73 (.int .u8 0) 1 Yba.underlying58 info73 rfl .i64 .i64 len0 (by omega) (by omega)
  go_enter Yba.func7, Yba.ntmps7
  go_wp2
  clear hmm hmk
  go_loopw [13] (fun i wr => ∃ k : Nat, k ≤ len0 ∧ i = .int .i64 k ∧ wr = ((((w.alloc (G 0)).alloc (G 1)).alloc (.map #[] 0)).alloc (MG w.heap.size)).alloc (.cells (fill zs len0 k) 73)) (fun i _ => len0 - (intOf i).toNat)
  case atStart => exact ⟨0, Nat.zero_le _, rfl, by rw [← fill_made zs len0]⟩
  case round =>
    obtain ⟨k, hk, rfl, rfl⟩ := hrel
    have hb1 : b < w.heap.size + 1 := by omega
    have hb2 : b < w.heap.size + 1 + 1 := by omega
    have hb3 : b < w.heap.size + 1 + 1 + 1 := by omega
    have hb4 : b < w.heap.size + 1 + 1 + 1 + 1 := by omega
    by_cases hlt : k < len0
    · have hck := hc k hlt
      have hf0 := fill_at zs len0 k k (by omega) hz hlt
      simp only [Nat.lt_irrefl, if_false] at hf0
      have hfs := fill_size zs len0 k hk hz
      have hst := fill_step zs len0 k hlt hz
      clear hc
      have HST : Hid ((fill zs len0 k).setIfInBounds k (.int .u8 (zs.getD k 0)) = fill zs len0 (k + 1)) := hst
      clear hst
      go_wp2
      go_roundw
      case rel => exact ⟨k + 1, by omega, by go_num, by rw [← HST.out]; simp⟩
      case measure => simp [intOf]; omega
    · obtain rfl : len0 = k := by omega
      obtain ⟨j, hj, hidx⟩ := idx_ok a2 len0 h0 h
      have hcj := hc j hj
      have hfj := fill_at zs len0 len0 j (Nat.le_refl _) hz hj
      simp only [hj, if_true] at hfj
      have hno := other_at w
      have hns := neq_same
      have hes := eql_same
      clear hc
      generalize hv : zs.getD j 0 = v at *
      have HV : Hid (zs.getD j 0 = v) := hv
      clear hv
      have fin : ∀ A, Below w.heap.size w (((((w.alloc (G 0)).alloc (G 1)).alloc (.map #[] 0)).alloc (.cells A 72)).alloc (.cells (fill zs len0 len0) 73)) := fun A =>
        (((((Below.refl _ w).alloc (Nat.le_refl _) (G 0)).alloc (by simp) (G 1)).alloc (by simp; omega) (.map #[] 0)).alloc (by simp; omega) (.cells A 72)).alloc (by simp; omega) (.cells (fill zs len0 len0) 73)
      have FIN : Hid (∀ A, Below w.heap.size w (((((w.alloc (G 0)).alloc (G 1)).alloc (.map #[] 0)).alloc (.cells A 72)).alloc (.cells (fill zs len0 len0) 73))) := fin
      clear fin
      by_cases hv1 : v = 1
      · subst hv1
        go_wp2
        go_ret
        exact ⟨rfl, FIN.out _⟩
      · have hv2 : (v == 1) = false := by simpa using hv1
        go_wp2
        go_ret
        exact ⟨rfl, FIN.out _⟩
end Go.Proofs.Ybulklui.lawS0619CPick
