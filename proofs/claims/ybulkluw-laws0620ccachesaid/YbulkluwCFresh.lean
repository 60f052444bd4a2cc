/-
  Seat b0620a. LawS0620CFresh (5): the walk, out of the contracts.
-/
import Derived.Test.YbulkluwCBuildW
namespace Go.Proofs.Ybulkluw
open Go.RowKit
attribute [local go_sem] run_store_float

theorem size1 (w : World) (o : Obj) : (w.alloc o).heap.size = w.heap.size + 1 := Array.size_push _
theorem bel3 (w : World) (o1 o2 o3 : Obj) : Below w.heap.size w (((w.alloc o1).alloc o2).alloc o3) :=
  ((((Below.refl _ _).alloc (Nat.le_refl _) _).alloc (by rw [size1]; omega) _).alloc (by rw [size1, size1]; omega) _)
theorem top_cell (w : World) (cs : Array Value) (t : TypeId) (j X : Nat) (v : Value) (hX : X = w.heap.size) (h : cs[j]? = some v) : (w.alloc (.cells cs t)).cell? ⟨X, j, none⟩ = some v := by
  subst hX
  rw [cell_of_row (w.alloc (.cells cs t)) w.heap.size j cs t (0, 0) (heap_alloc_new w _)]
  exact h
theorem down_cell (w : World) (o : Obj) (p : Addr) (v : Value) (h : w.cell? p = some v) : (w.alloc o).cell? p = some v := by
  rw [World.cell?_alloc_some w _ _ (by rw [h]; rfl)]; exact h

theorem bel4 (w : World) (o1 o2 o3 o4 : Obj) : Below w.heap.size w ((((w.alloc o1).alloc o2).alloc o3).alloc o4) :=
  (bel3 w o1 o2 o3).alloc (by rw [size1, size1, size1]; omega) _
theorem two_at (x y : Value) (k : Nat) (hk : k < 2) : (#[x, y, x, y] : Array Value)[k * 2]? = some x ∧ (#[x, y, x, y] : Array Value)[k * 2 + 1]? = some y := by
  match k, hk with
  | 0, _ => exact ⟨rfl, rfl⟩
  | 1, _ => exact ⟨rfl, rfl⟩

set_option maxRecDepth 100000 in
set_option maxHeartbeats 4000000 in
theorem fresh (w : World) (aP aI : Option Addr) (cP cI : Nat) (P : List Int) (I : List (Nat × Int)) (hP : PrAt w aP P) (hI : ItAt w aI I) (n m : Nat) (hn : n = P.length) (hm : m = I.length) (sel : Nat) (hsel : sel ≤ 255) (B : Int) (hB1 : -2147483648 ≤ B) (hB2 : B ≤ 2147483647) (sh : Bool) :
    Calls Yba.prog 5 #[.slice aP n cP, .slice aI m cI, .int .u8 sel, .int .i32 B, .bool sh] w fun e w' => e = .returned (.bool true) ∧ Below w.heap.size w w' := by
  have HP : Hid (PrAt w aP P) := hP
  have HI : Hid (ItAt w aI I) := hI
  have HN : Hid (n = P.length) := hn
  have HM : Hid (m = I.length) := hm
  clear hP hI hn hm
  by_cases hn2 : n ≤ 1024
  case neg =>
    have : (1024 : Int) < (n : Int) := by omega
    go_enter Yba.func5, Yba.ntmps5
    go_wp2
    go_ret
    exact ⟨rfl, Below.refl _ _⟩
  by_cases hm2 : m ≤ 1024
  case neg =>
    have : (1024 : Int) < (m : Int) := by omega
    have : ¬ ((1024 : Int) < (n : Int)) := by omega
    go_enter Yba.func5, Yba.ntmps5
    go_wp2
    go_ret
    exact ⟨rfl, Below.refl _ _⟩
  have g1 : ¬ ((1024 : Int) < (n : Int)) := by omega
  have g2 : ¬ ((1024 : Int) < (m : Int)) := by omega
  go_enter Yba.func5, Yba.ntmps5
  go_wp2_with fail
  refine (cbuild w aP aI cP cI P I HP.out HI.out n m HN.out HM.out hn2 hm2).mono ?_
  rintro e w1 ⟨PB, OB, rfl, hbuilt⟩
  rw [← HN.out]
  have HBU : Hid (Built w w1 P I PB OB) := hbuilt
  clear hbuilt
  obtain ⟨k, hk'⟩ : ∃ k : Nat, (sel : Int) % 2 = (k : Int) := ⟨sel % 2, by omega⟩
  have hk2 : k < 2 := by omega
  have i1 : (0 : Int) ≤ (k : Int) := by omega
  have i2 : (k : Int) < 2 := by omega
  obtain ⟨aB, cB, ccell, hbun, hBB⟩ := HBU.out.2.2.2 k hk2
  obtain ⟨l, HL⟩ : ∃ l, Hid (l = (Lk I P.length k).length) := ⟨_, rfl⟩
  rw [← HL.out] at ccell
  have HBUN : Hid (BunAt w1 aB (Lk I P.length k) P.length) := hbun
  have HBB : Hid (∀ BB, aB = some ⟨BB, 0, none⟩ → BB < w1.heap.size) := hBB
  have hl2 : l ≤ 1024 := by
    rw [HL.out]
    unfold Lk
    split
    · simp
    · have := bL_le I P.length
      have := HM.out
      omega
  clear hbun hBB
  go_wp2_with fail
  refine (model w1 PB P aB cB (Lk I P.length k) HBU.out.2.1 HBUN.out n l HN.out HL.out hl2).mono ?_
  rintro e w2 ⟨rfl, hb2⟩
  have HB2 : Hid (Below w1.heap.size w1 w2) := hb2
  obtain ⟨f, HF⟩ : ∃ f, Hid (f = costF P (Lk I P.length k)) := ⟨_, rfl⟩
  rw [← HF.out]
  have HCC : Hid (w2.cell? ⟨OB, k * 10 + 2, none⟩ = some (.slice aB l cB)) := kept hb2 ccell
  have ho : FloatKind.f64.format.order f f = some .eq := order_self (by
    have := costF_notNaN HBU.out.2.1 HBUN.out (Lk I P.length k).length (Nat.le_refl _)
    rw [List.take_length, ← HF.out] at this
    exact this)
  clear hb2 ccell
  have HW : Hid (Below w.heap.size w w2) := HBU.out.1.trans (HB2.out.mono HBU.out.1.size)
  have HPF2 : Hid (PfAt w2 PB P) := HBU.out.2.1.below HB2.out HBU.out.2.1.1
  have HBUN2 : Hid (BunAt w2 aB (Lk I P.length k) P.length) := HBUN.out.below HB2.out (Nat.le_refl _)
  cases sh with
  | false =>
    go_wp2_with fail
    refine (bound_nil _ w2.heap.size (w2.heap.size + 1) (w2.heap.size + 1 + 1) OB PB k P (Lk I P.length k) aB l cB n (down_cell _ _ _ _ (top_cell _ _ _ 1 _ _ (by rw [size1]) rfl)) (top_cell _ _ _ 0 _ _ (by rw [size1, size1]) rfl) hk2 (kept (bel3 w2 _ _ _) HCC.out) (down_cell _ _ _ _ (down_cell _ _ _ _ (top_cell _ _ _ 3 _ _ rfl rfl))) (down_cell _ _ _ _ (top_cell _ _ _ 3 _ _ (by rw [size1]) rfl)) (HPF2.out.below (bel3 w2 _ _ _) HPF2.out.1) (HBUN2.out.below (bel3 w2 _ _ _) (Nat.le_refl _)) HN.out HL.out hl2).mono ?_
    rintro e w3 ⟨rfl, hb3⟩
    rw [← HF.out]
    have HB3 : Hid (Below w.heap.size w w3) := HW.out.trans (((bel3 w2 _ _ _).trans (hb3.mono (bel3 w2 _ _ _).size)).mono HW.out.size)
    clear hb3
    go_wp2
    go_ret
    exact ⟨rfl, HB3.out⟩
  | true =>
    go_wp2_with fail
    have hlt := HBU.out.2.2.1
    have hlt2 := HB2.out.size
    have hlt3 := HBU.out.2.1.1
    refine (bound_anew _ w2.heap.size (w2.heap.size + 1) (w2.heap.size + 1 + 1 + 1) OB PB (w2.heap.size + 1 + 1) k P (Lk I P.length k) aB l cB n (B + 1) B 4619567317775286272
      (down_cell _ _ _ _ (down_cell _ _ _ _ (top_cell _ _ _ 1 _ _ (by rw [size1]) rfl)))
      (top_cell _ _ _ 0 _ _ (by rw [size1, size1, size1]) rfl) hk2 (kept (bel4 w2 _ _ _ _) HCC.out)
      (down_cell _ _ _ _ (down_cell _ _ _ _ (down_cell _ _ _ _ (top_cell _ _ _ 3 _ _ rfl rfl))))
      (down_cell _ _ _ _ (down_cell _ _ _ _ (top_cell _ _ _ 3 _ _ (by rw [size1]) rfl)))
      (down_cell _ _ _ _ (down_cell _ _ _ _ (down_cell _ _ _ _ (top_cell _ _ _ 26 _ _ rfl rfl))))
      (down_cell _ _ _ _ (top_cell _ _ _ (k * 2) _ _ (by rw [size1, size1]) (two_at _ _ k hk2).1))
      (down_cell _ _ _ _ (top_cell _ _ _ (k * 2 + 1) _ _ (by rw [size1, size1]) (two_at _ _ k hk2).2))
      (fun o => by rw [frozen?_alloc_cells]; exact World.frozen?_alloc_at _ _ _ _ (by rw [size1, size1]))
      (by omega) ⟨by omega, by omega, by omega, by omega, by omega, fun BB h => by have := HBB.out BB h; omega⟩
      (HPF2.out.below (bel4 w2 _ _ _ _) HPF2.out.1) (HBUN2.out.below (bel4 w2 _ _ _ _) (Nat.le_refl _)) HN.out HL.out hl2).mono ?_
    rintro e w3 ⟨rfl, hfr, hc1, hc2⟩
    rw [← HF.out] at hc2 ⊢
    have q1 : w3.cell? ⟨w2.heap.size + 1, 3, none⟩ = some (.slice (some ⟨w2.heap.size + 1 + 1, 0, none⟩) 2 2) := hfr.at (down_cell _ _ _ _ (down_cell _ _ _ _ (top_cell _ _ _ 3 _ _ (by rw [size1]) rfl))) (by omega)
    obtain ⟨k', hk1⟩ : ∃ k' : Nat, (1 : Int) - (k : Int) = (k' : Int) := ⟨1 - k, by omega⟩
    have q2 : w3.cell? ⟨w2.heap.size + 1 + 1, k' * 2, none⟩ = some (.int .i64 (B + 1)) := hfr.at (down_cell _ _ _ _ (top_cell _ _ _ (k' * 2) _ _ (by rw [size1, size1]) (two_at _ _ k' (by omega)).1)) (by omega)
    have q3 : w3.cell? ⟨w2.heap.size + 1 + 1, k' * 2 + 1, none⟩ = some (.float .f64 4619567317775286272) := hfr.at (down_cell _ _ _ _ (top_cell _ _ _ (k' * 2 + 1) _ _ (by rw [size1, size1]) (two_at _ _ k' (by omega)).2)) (by omega)
    have HB3 : Hid (Below w.heap.size w w3) := HW.out.trans (((bel4 w2 _ _ _ _).trans (hfr.2.2.1 w2.heap.size (by omega) (bel4 w2 _ _ _ _).size)).mono HW.out.size)
    have ho7 : FloatKind.f64.format.order 4619567317775286272 4619567317775286272 = some .eq := order_self seven_notNaN
    have i3 : (0 : Int) ≤ (k' : Int) := by omega
    have i4 : (k' : Int) < 2 := by omega
    clear hfr hlt hlt2 hlt3
    go_wp2
    go_ret
    exact ⟨rfl, HB3.out⟩

end Go.Proofs.Ybulkluw
