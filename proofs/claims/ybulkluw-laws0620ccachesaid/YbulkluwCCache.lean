/-
  Seat b0620a. LawS0620CCache (6): the walk, out of the contracts.
-/
import Derived.Test.YbulkluwCFresh
namespace Go.Proofs.Ybulkluw
open Go.RowKit
attribute [local go_sem] run_store_float

theorem bound_kept_b (w : World) (PK CK BK SB k : Nat) (B : Int) (f : Nat) (h2 : w.cell? ⟨BK, 0, none⟩ = some (.int .i64 k)) (hk : k < 2) (h5 : w.cell? ⟨CK, 3, none⟩ = some (.slice (some ⟨SB, 0, none⟩) 2 2)) (h6 : w.cell? ⟨PK, 26, none⟩ = some (.int .i64 B)) (h7 : w.cell? ⟨SB, k * 2, none⟩ = some (.int .i64 B)) (h8 : w.cell? ⟨SB, k * 2 + 1, none⟩ = some (.float .f64 f)) :
    Calls Yba.prog 13 #[.pointer (some ⟨PK, 0, none⟩), .pointer (some ⟨CK, 0, none⟩), .pointer (some ⟨BK, 0, none⟩)] w fun e w' => e = .returned (.float .f64 f) ∧ Below w.heap.size w w' := by
  refine (bound_kept w PK CK BK SB k B f h2 hk h5 h6 h7 h8).mono ?_
  rintro e w' ⟨rfl, n, rfl⟩
  exact ⟨rfl, belowN (Below.refl _ _) n⟩

theorem at5 {w : World} {X j b o : Nat} {u v : Value} {ob : Obj} (h : w.cell? ⟨b, o, none⟩ = some v) (hne : ¬ (X = b ∧ j = o)) : ((w.setCell ⟨X, j, none⟩ u).alloc ob).cell? ⟨b, o, none⟩ = some v :=
  down_cell _ _ _ _ (by rw [set_other hne]; exact h)
theorem bel5 (w : World) (X j : Nat) (u : Value) (ob : Obj) (N : Nat) (h : N ≤ X) (h2 : N ≤ w.heap.size) : Below N w ((w.setCell ⟨X, j, none⟩ u).alloc ob) :=
  ((Below.refl N w).setCell (p := ⟨X, j, none⟩) h u).alloc (by simpa [World.setCell] using h2) ob

set_option maxRecDepth 100000 in
set_option maxHeartbeats 4000000 in
theorem cache (w : World) (aP aI : Option Addr) (cP cI : Nat) (P : List Int) (I : List (Nat × Int)) (hP : PrAt w aP P) (hI : ItAt w aI I) (n m : Nat) (hn : n = P.length) (hm : m = I.length) (sel : Nat) (hsel : sel ≤ 255) (B : Int) (hB1 : -2147483648 ≤ B) (hB2 : B ≤ 2147483647) (S : Int) (hS1 : -2147483648 ≤ S) (hS2 : S ≤ 2147483647) :
    Calls Yba.prog 6 #[.slice aP n cP, .slice aI m cI, .int .u8 sel, .int .i32 B, .int .i32 S] w fun e w' => e = .returned (.bool true) ∧ Below w.heap.size w w' := by
  have HP : Hid (PrAt w aP P) := hP
  have HI : Hid (ItAt w aI I) := hI
  have HN : Hid (n = P.length) := hn
  have HM : Hid (m = I.length) := hm
  clear hP hI hn hm
  by_cases hn2 : n ≤ 1024
  case neg =>
    have : (1024 : Int) < (n : Int) := by omega
    go_enter Yba.func6, Yba.ntmps6
    go_wp2
    go_ret
    exact ⟨rfl, Below.refl _ _⟩
  by_cases hm2 : m ≤ 1024
  case neg =>
    have : (1024 : Int) < (m : Int) := by omega
    have : ¬ ((1024 : Int) < (n : Int)) := by omega
    go_enter Yba.func6, Yba.ntmps6
    go_wp2
    go_ret
    exact ⟨rfl, Below.refl _ _⟩
  have g1 : ¬ ((1024 : Int) < (n : Int)) := by omega
  have g2 : ¬ ((1024 : Int) < (m : Int)) := by omega
  go_enter Yba.func6, Yba.ntmps6
  go_wp2_with fail
  refine (cbuild w aP aI cP cI P I HP.out HI.out n m HN.out HM.out hn2 hm2).mono ?_
  rintro e w1 ⟨PB, OB, rfl, hbuilt⟩
  rw [← HN.out]
  have HBU : Hid (Built w w1 P I PB OB) := hbuilt
  clear hbuilt
  obtain ⟨k, hk'⟩ : ∃ k : Nat, (sel : Int) % 2 = (k : Int) := ⟨sel % 2, by omega⟩
  have hk2 : k < 2 := by omega
  have i1 : (0 : Int) ≤ (k : Int) := by omega
  have i2 : (k : Int) < 2 := by omega
  obtain ⟨aB, cB, ccell, hbun, hBB⟩ := HBU.out.2.2.2 k hk2
  obtain ⟨l, HL⟩ : ∃ l, Hid (l = (Lk I P.length k).length) := ⟨_, rfl⟩
  rw [← HL.out] at ccell
  have HBUN : Hid (BunAt w1 aB (Lk I P.length k) P.length) := hbun
  have HBB : Hid (∀ BB, aB = some ⟨BB, 0, none⟩ → BB < w1.heap.size) := hBB
  have hl2 : l ≤ 1024 := by
    rw [HL.out]
    unfold Lk
    split
    · simp
    · have := bL_le I P.length
      have := HM.out
      omega
  clear hbun hBB
  go_wp2_with fail
  refine (model w1 PB P aB cB (Lk I P.length k) HBU.out.2.1 HBUN.out n l HN.out HL.out hl2).mono ?_
  rintro e w2 ⟨rfl, hb2⟩
  have HB2 : Hid (Below w1.heap.size w1 w2) := hb2
  obtain ⟨f, HF⟩ : ∃ f, Hid (f = costF P (Lk I P.length k)) := ⟨_, rfl⟩
  rw [← HF.out]
  have HCC : Hid (w2.cell? ⟨OB, k * 10 + 2, none⟩ = some (.slice aB l cB)) := kept hb2 ccell
  have ho : FloatKind.f64.format.order f f = some .eq := order_self (by
    have := costF_notNaN HBU.out.2.1 HBUN.out (Lk I P.length k).length (Nat.le_refl _)
    rw [List.take_length, ← HF.out] at this
    exact this)
  clear hb2 ccell
  have HW : Hid (Below w.heap.size w w2) := HBU.out.1.trans (HB2.out.mono HBU.out.1.size)
  have HPF2 : Hid (PfAt w2 PB P) := HBU.out.2.1.below HB2.out HBU.out.2.1.1
  have HBUN2 : Hid (BunAt w2 aB (Lk I P.length k) P.length) := HBUN.out.below HB2.out (Nat.le_refl _)
  have hlt := HBU.out.2.2.1
  have hlt2 := HB2.out.size
  have hlt3 := HBU.out.2.1.1
  have HLT : Hid (OB < w1.heap.size ∧ w1.heap.size ≤ w2.heap.size ∧ PB < w1.heap.size) := ⟨hlt, hlt2, hlt3⟩
  clear hlt hlt2 hlt3
  have hog : FloatKind.f64.format.order (floatOfInt .f64 S) (floatOfInt .f64 S) = some .eq := order_self (ofInt_fin S hS1 hS2).notNaN
  go_wp2_with fail
  refine (bound_kept_b _ w2.heap.size (w2.heap.size + 1) (w2.heap.size + 1 + 1 + 1) (w2.heap.size + 1 + 1) k B (floatOfInt .f64 S)
    (top_cell _ _ _ 0 _ _ (by rw [size1, size1, size1]) rfl) hk2
    (down_cell _ _ _ _ (down_cell _ _ _ _ (top_cell _ _ _ 3 _ _ (by rw [size1]) rfl)))
    (down_cell _ _ _ _ (down_cell _ _ _ _ (down_cell _ _ _ _ (top_cell _ _ _ 26 _ _ rfl rfl))))
    (down_cell _ _ _ _ (top_cell _ _ _ (k * 2) _ _ (by rw [size1, size1]) (two_at _ _ k hk2).1))
    (down_cell _ _ _ _ (top_cell _ _ _ (k * 2 + 1) _ _ (by rw [size1, size1]) (two_at _ _ k hk2).2))).mono ?_
  rintro e w3 ⟨rfl, hb3⟩
  obtain ⟨k', hk1⟩ : ∃ k' : Nat, (1 : Int) - (k : Int) = (k' : Int) := ⟨1 - k, by omega⟩
  have HS3 : Hid (w2.heap.size + 1 + 1 + 1 + 1 ≤ w3.heap.size) := by
    have := hb3.size
    rw [size1, size1, size1, size1] at this
    exact this
  have q1 : w3.cell? ⟨w2.heap.size + 1, 3, none⟩ = some (.slice (some ⟨w2.heap.size + 1 + 1, 0, none⟩) 2 2) := kept hb3 (down_cell _ _ _ _ (down_cell _ _ _ _ (top_cell _ _ _ 3 _ _ (by rw [size1]) rfl)))
  have q0 : w3.cell? ⟨w2.heap.size + 1, 1, none⟩ = some (.slice (some ⟨OB, 0, none⟩) 2 2) := kept hb3 (down_cell _ _ _ _ (down_cell _ _ _ _ (top_cell _ _ _ 1 _ _ (by rw [size1]) rfl)))
  have q2 : w3.cell? ⟨w2.heap.size + 1 + 1, k * 2, none⟩ = some (.int .i64 B) := kept hb3 (down_cell _ _ _ _ (top_cell _ _ _ (k * 2) _ _ (by rw [size1, size1]) (two_at _ _ k hk2).1))
  have q3 : w3.cell? ⟨w2.heap.size + 1 + 1, k * 2 + 1, none⟩ = some (.float .f64 (floatOfInt .f64 S)) := kept hb3 (down_cell _ _ _ _ (top_cell _ _ _ (k * 2 + 1) _ _ (by rw [size1, size1]) (two_at _ _ k hk2).2))
  have q4 : w3.cell? ⟨w2.heap.size + 1 + 1, k' * 2, none⟩ = some (.int .i64 B) := kept hb3 (down_cell _ _ _ _ (top_cell _ _ _ (k' * 2) _ _ (by rw [size1, size1]) (two_at _ _ k' (by omega)).1))
  have q5 : w3.cell? ⟨w2.heap.size + 1 + 1, k' * 2 + 1, none⟩ = some (.float .f64 (floatOfInt .f64 S)) := kept hb3 (down_cell _ _ _ _ (top_cell _ _ _ (k' * 2 + 1) _ _ (by rw [size1, size1]) (two_at _ _ k' (by omega)).2))
  have q6 : w3.cell? ⟨w2.heap.size, 26, none⟩ = some (.int .i64 B) := kept hb3 (down_cell _ _ _ _ (down_cell _ _ _ _ (down_cell _ _ _ _ (top_cell _ _ _ 26 _ _ rfl rfl))))
  have q7 : w3.cell? ⟨w2.heap.size, 3, none⟩ = some (.slice (some ⟨PB, 0, none⟩) n n) := kept hb3 (down_cell _ _ _ _ (down_cell _ _ _ _ (down_cell _ _ _ _ (top_cell _ _ _ 3 _ _ rfl rfl))))
  have q8 : w3.frozen? ⟨w2.heap.size, 26, none⟩ = false := keptF hb3 (down_cell _ _ _ _ (down_cell _ _ _ _ (down_cell _ _ _ _ (top_cell _ _ _ 26 _ _ rfl rfl)))) (by rw [frozen?_alloc_cells, frozen?_alloc_cells, frozen?_alloc_cells]; exact World.frozen?_alloc_at _ _ _ _ rfl)
  have HFZ : Hid (∀ o, w3.frozen? ⟨w2.heap.size + 1 + 1, o, none⟩ = false) := fun o => by
    rw [hb3.frozen (p := ⟨w2.heap.size + 1 + 1, o, none⟩) (by rw [size1, size1, size1, size1]; simp), frozen?_alloc_cells]
    exact World.frozen?_alloc_at _ _ _ _ (by rw [size1, size1])
  have HB3 : Hid (Below w2.heap.size w2 w3) := (bel4 w2 _ _ _ _).trans (hb3.mono (bel4 w2 _ _ _ _).size)
  have HW3 : Hid (Below w.heap.size w w3) := HW.out.trans (HB3.out.mono HW.out.size)
  have HPF3 : Hid (PfAt w3 PB P) := HPF2.out.below HB3.out HPF2.out.1
  have HBUN3 : Hid (BunAt w3 aB (Lk I P.length k) P.length) := HBUN2.out.below HB3.out (Nat.le_refl _)
  have HCC3 : Hid (w3.cell? ⟨OB, k * 10 + 2, none⟩ = some (.slice aB l cB)) := kept HB3.out HCC.out
  have i3 : (0 : Int) ≤ (k' : Int) := by omega
  have i4 : (k' : Int) < 2 := by omega
  clear hb3
  go_wp2_with fail
  obtain ⟨hlt, hlt2, hlt3⟩ := HLT.out
  have hs3 := HS3.out
  refine (bound_anew _ w2.heap.size (w2.heap.size + 1) w3.heap.size OB PB (w2.heap.size + 1 + 1) k P (Lk I P.length k) aB l cB n B (B + 1) (floatOfInt .f64 S)
    (at5 q0 (by omega)) (top_cell _ _ _ 0 _ _ (by simp [World.setCell]) rfl) hk2 (at5 HCC3.out (by omega)) (at5 q7 (by omega)) (at5 q1 (by omega))
    (down_cell _ _ _ _ (set_same q6)) (at5 q2 (by omega)) (at5 q3 (by omega))
    (fun o => by rw [frozen?_alloc_cells]; simpa using HFZ.out o) (by omega)
    ⟨by omega, by omega, by omega, by omega, by omega, fun BB h => by have := HBB.out BB h; omega⟩
    ((HPF3.out.set (by omega)).below ((Below.refl _ _).alloc (Nat.le_refl _) _) (HPF3.out.set (v := .int .i64 (B + 1)) (X := w2.heap.size) (o := 26) (by omega)).1)
    ((HBUN3.out.set (fun BB h => by have := HBB.out BB h; omega)).below ((Below.refl _ _).alloc (Nat.le_refl _) _) (Nat.le_refl _)) HN.out HL.out hl2).mono ?_
  rintro e w4 ⟨rfl, hfr, hc1, hc2⟩
  rw [← HF.out] at hc2 ⊢
  have r1 : w4.cell? ⟨w2.heap.size + 1, 3, none⟩ = some (.slice (some ⟨w2.heap.size + 1 + 1, 0, none⟩) 2 2) := hfr.at (at5 q1 (by omega)) (by omega)
  have r4 : w4.cell? ⟨w2.heap.size + 1 + 1, k' * 2, none⟩ = some (.int .i64 B) := hfr.at (at5 q4 (by omega)) (by omega)
  have r5 : w4.cell? ⟨w2.heap.size + 1 + 1, k' * 2 + 1, none⟩ = some (.float .f64 (floatOfInt .f64 S)) := hfr.at (at5 q5 (by omega)) (by omega)
  have HB4 : Hid (Below w.heap.size w w4) := by
    have hwz := HW.out.size
    have h5 := bel5 w3 w2.heap.size 26 (.int .i64 (B + 1)) (Obj.cells #[.int .i64 k, .float .f64 0, .float .f64 0] 85) w.heap.size hwz (by omega)
    exact (HW3.out.trans h5).trans (hfr.2.2.1 w.heap.size (by omega) (by have := h5.size; omega))
  clear hfr hlt hlt2 hlt3 hs3 q0 q1 q2 q3 q4 q5 q6 q7 q8
  go_wp2
  go_ret
  exact ⟨rfl, HB4.out⟩

end Go.Proofs.Ybulkluw
