/-
  Seat b0620a. Units (17), the law's own sum (12), costOf (15), bundle (16), by their contracts.
-/
import Derived.Test.YbulkluwCPlain
import Derived.Deep.QuietTactic
import Derived.BigQuiet
import Derived.Deep.RegionHeld3
namespace Go.Proofs.Ybulkluw
open Go.RowKit
attribute [local go_sem] run_store_float

theorem belowN {B : Nat} {a w : World} (h : Below B a w) (n : Nat) : Below B a (w.drewN n) := h.trans ⟨rfl, rfl, rfl, Nat.le_refl _, fun _ _ => rfl⟩
theorem val_float {a b : Nat} (h : a = b) : Value.float .f64 a = .float .f64 b := by rw [h]

set_option maxHeartbeats 400000 in
theorem units (q : Int) (w : World) (h : Ok16 q) : Calls Yba.prog 17 #[.int .i64 q] w fun e w' => e = .returned (.float .f64 (uF q)) ∧ w' = w := by
  have hq : ∀ t w, (binOp .quo t (.float .f64 (floatOfInt .f64 q)) (.float .f64 4652007308841189376)).run Yba.prog w = .ok (.float .f64 (uF q)) w := fun t w => run_float_arith w .quo t .f64 _ _ _ (uF_ok q h).1
  go_enter Yba.func17, Yba.ntmps17
  go_wp2
  go_ret
  exact ⟨rfl, rfl⟩

set_option maxHeartbeats 1000000 in
theorem model (w : World) (PB : Nat) (P : List Int) (a : Option Addr) (c : Nat) (L : List (Nat × Int)) (hP : PfAt w PB P) (hL : BunAt w a L P.length) (n m : Nat) (hn : n = P.length) (hm : m = L.length) (hm2 : m ≤ 1024) :
    Calls Yba.prog 12 #[.slice (some ⟨PB, 0, none⟩) n n, .slice a m c] w fun e w' => e = .returned (.float .f64 (costF P L)) ∧ Below w.heap.size w w' := by
  have HP : Hid (PfAt w PB P) := hP
  have HL : Hid (BunAt w a L P.length) := hL
  have HN : Hid (n = P.length) := hn
  have HM : Hid (m = L.length) := hm
  clear hP hL hn hm
  go_enter Yba.func12, Yba.ntmps12
  go_wp2
  go_loopw [5, 10] (fun sv iv wr => ∃ k : Nat, k ≤ m ∧ iv = .int .i64 k ∧ sv = .float .f64 (costF P (L.take k)) ∧ Hid (Below w.heap.size w wr)) (fun _ iv _ => m - (intOf iv).toNat)
  case atStart => exact ⟨0, Nat.zero_le _, rfl, rfl, Below.refl _ _⟩
  case round =>
    rename World => wA
    obtain ⟨k, hkm, rfl, rfl, hbel⟩ := hrel
    by_cases hlt : k < m
    · obtain ⟨BB, ha, hBB, c0, c1, hpn, hq16⟩ := HL.out k (by rw [← HM.out]; exact hlt)
      obtain ⟨cp, hp16⟩ := HP.out.2 _ hpn
      have hPB := HP.out.1
      have HNX : Hid (costF P (L.take (k + 1)) = fadd (costF P (L.take k)) (fmul (pF (P.getD (L.getD k (0, 0)).1 0)) (uF (L.getD k (0, 0)).2))) := costF_next P L k (by rw [← HM.out]; exact hlt)
      have hnn := costF_notNaN HP.out HL.out k (by rw [← HM.out]; exact hkm)
      have hadd : ∀ t w, (binOp .add t (.float .f64 (costF P (L.take k))) (.float .f64 (fmul (pF (P.getD (L.getD k (0, 0)).1 0)) (uF (L.getD k (0, 0)).2)))).run Yba.prog w = .ok (.float .f64 (costF P (L.take (k + 1)))) w := fun t w => by
        rw [HNX.out]
        exact run_float_arith w .add t .f64 _ _ _ (add_ok hnn (term_ok _ _ hp16 hq16).2).1
      have hmul : ∀ t w, (binOp .mul t (.float .f64 (pF (P.getD (L.getD k (0, 0)).1 0))) (.float .f64 (uF (L.getD k (0, 0)).2))).run Yba.prog w = .ok (.float .f64 (fmul (pF (P.getD (L.getD k (0, 0)).1 0)) (uF (L.getD k (0, 0)).2))) w := fun t w => run_float_arith w .mul t .f64 _ _ _ (term_ok _ _ hp16 hq16).1
      have hquo : ∀ t w, (binOp .quo t (.float .f64 (floatOfInt .f64 (L.getD k (0, 0)).2)) (.float .f64 4652007308841189376)).run Yba.prog w = .ok (.float .f64 (uF (L.getD k (0, 0)).2)) w := fun t w => run_float_arith w .quo t .f64 _ _ _ (uF_ok _ hq16).1
      rw [← HN.out] at hpn
      clear hnn hp16
      generalize hpe : (L.getD k (0, 0)).1 = p at *
      generalize hqe : (L.getD k (0, 0)).2 = q at *
      generalize hte : fmul (pF (P.getD p 0)) (uF q) = t at *
      generalize hxe : pF (P.getD p 0) = x at *
      generalize hue : uF q = u at *
      generalize hse : costF P (L.take k) = s at *
      have k0 : wA.cell? ⟨BB, k * 2, none⟩ = some (.int .i64 p) := by rw [hbel.out.cell (p := ⟨BB, k * 2, none⟩) hBB]; exact c0
      have k1 : wA.cell? ⟨BB, k * 2 + 1, none⟩ = some (.int .i64 q) := by rw [hbel.out.cell (p := ⟨BB, k * 2 + 1, none⟩) hBB]; exact c1
      have k2 : wA.cell? ⟨PB, p, none⟩ = some (.float .f64 x) := by rw [hbel.out.cell (p := ⟨PB, p, none⟩) hPB]; exact cp
      have hsz := hbel.out.size
      have k3 : (wA.alloc (Obj.cells #[.int .i64 p, .int .i64 q] 95)).cell? ⟨PB, p, none⟩ = some (.float .f64 x) := by rw [World.cell?_alloc_some wA _ _ (by rw [k2]; rfl)]; exact k2
      have HA : Hid (a = some ⟨BB, 0, none⟩) := ha
      subst ha
      clear c0 c1 cp hpe hqe hte hxe hue hse HNX
      obtain ⟨sn, HSN⟩ : ∃ sn, Hid (sn = costF P (L.take (k + 1))) := ⟨_, rfl⟩
      rw [← HSN.out] at hadd
      have i1 : (0 : Int) ≤ (p : Int) := by omega
      have i2 : (p : Int) < (n : Int) := by omega
      go_wp2_with fail
      go_quiet (fail)
      go_wp2
      go_roundw
      case rel => exact ⟨k + 1, by omega, by go_num, val_float HSN.out, belowN (hbel.out.alloc hsz _) _⟩
      case measure => simp [intOf]; omega
    · have e : k = m := by omega
      subst e
      have HT : Hid (L.take k = L) := by rw [HM.out]; exact List.take_length
      rw [HT.out]
      go_wp2
      go_ret
      exact ⟨rfl, hbel.out⟩

theorem units' (q : Int) (w : World) (u : Nat) (h : Ok16 q) (hu : uF q = u) : Calls Yba.prog 17 #[.int .i64 q] w fun e w' => e = .returned (.float .f64 u) ∧ w' = w := by
  subst hu
  exact units q w h

set_option maxHeartbeats 1000000 in
theorem costOf (w : World) (PB PK : Nat) (P : List Int) (a : Option Addr) (c : Nat) (L : List (Nat × Int)) (hP : PfAt w PB P) (hL : BunAt w a L P.length) (n m : Nat) (hn : n = P.length) (hm : m = L.length) (hm2 : m ≤ 1024) (hK : w.cell? ⟨PK, 3, none⟩ = some (.slice (some ⟨PB, 0, none⟩) n n)) :
    Calls Yba.prog 15 #[.pointer (some ⟨PK, 0, none⟩), .slice a m c] w fun e w' => e = .returned (.float .f64 (costF P L)) ∧ Below w.heap.size w w' := by
  have HP : Hid (PfAt w PB P) := hP
  have HL : Hid (BunAt w a L P.length) := hL
  have HN : Hid (n = P.length) := hn
  have HM : Hid (m = L.length) := hm
  clear hP hL hn hm
  go_enter Yba.func15, Yba.ntmps15
  go_wp2
  go_loopw [5, 10] (fun sv iv wr => ∃ k : Nat, k ≤ m ∧ iv = .int .i64 k ∧ sv = .float .f64 (costF P (L.take k)) ∧ Hid (Below w.heap.size w wr)) (fun _ iv _ => m - (intOf iv).toNat)
  case atStart => exact ⟨0, Nat.zero_le _, rfl, rfl, Below.refl _ _⟩
  case round =>
    rename World => wA
    obtain ⟨k, hkm, rfl, rfl, hbel⟩ := hrel
    by_cases hlt : k < m
    · obtain ⟨BB, ha, hBB, c0, c1, hpn, hq16⟩ := HL.out k (by rw [← HM.out]; exact hlt)
      obtain ⟨cp, hp16⟩ := HP.out.2 _ hpn
      have hPB := HP.out.1
      have HNX : Hid (costF P (L.take (k + 1)) = fadd (costF P (L.take k)) (fmul (pF (P.getD (L.getD k (0, 0)).1 0)) (uF (L.getD k (0, 0)).2))) := costF_next P L k (by rw [← HM.out]; exact hlt)
      have hnn := costF_notNaN HP.out HL.out k (by rw [← HM.out]; exact hkm)
      have hadd : ∀ t w, (binOp .add t (.float .f64 (costF P (L.take k))) (.float .f64 (fmul (pF (P.getD (L.getD k (0, 0)).1 0)) (uF (L.getD k (0, 0)).2)))).run Yba.prog w = .ok (.float .f64 (costF P (L.take (k + 1)))) w := fun t w => by
        rw [HNX.out]
        exact run_float_arith w .add t .f64 _ _ _ (add_ok hnn (term_ok _ _ hp16 hq16).2).1
      have hmul : ∀ t w, (binOp .mul t (.float .f64 (pF (P.getD (L.getD k (0, 0)).1 0))) (.float .f64 (uF (L.getD k (0, 0)).2))).run Yba.prog w = .ok (.float .f64 (fmul (pF (P.getD (L.getD k (0, 0)).1 0)) (uF (L.getD k (0, 0)).2))) w := fun t w => run_float_arith w .mul t .f64 _ _ _ (term_ok _ _ hp16 hq16).1
      have hquo : ∀ t w, (binOp .quo t (.float .f64 (floatOfInt .f64 (L.getD k (0, 0)).2)) (.float .f64 4652007308841189376)).run Yba.prog w = .ok (.float .f64 (uF (L.getD k (0, 0)).2)) w := fun t w => run_float_arith w .quo t .f64 _ _ _ (uF_ok _ hq16).1
      rw [← HN.out] at hpn
      clear hnn hp16
      generalize hpe : (L.getD k (0, 0)).1 = p at *
      generalize hqe : (L.getD k (0, 0)).2 = q at *
      generalize hte : fmul (pF (P.getD p 0)) (uF q) = t at *
      generalize hxe : pF (P.getD p 0) = x at *
      generalize hue : uF q = u at *
      generalize hse : costF P (L.take k) = s at *
      have k0 : wA.cell? ⟨BB, k * 2, none⟩ = some (.int .i64 p) := by rw [hbel.out.cell (p := ⟨BB, k * 2, none⟩) hBB]; exact c0
      have k1 : wA.cell? ⟨BB, k * 2 + 1, none⟩ = some (.int .i64 q) := by rw [hbel.out.cell (p := ⟨BB, k * 2 + 1, none⟩) hBB]; exact c1
      have k2 : wA.cell? ⟨PB, p, none⟩ = some (.float .f64 x) := by rw [hbel.out.cell (p := ⟨PB, p, none⟩) hPB]; exact cp
      have hsz := hbel.out.size
      have k3 : (wA.alloc (Obj.cells #[.int .i64 p, .int .i64 q] 95)).cell? ⟨PB, p, none⟩ = some (.float .f64 x) := by rw [World.cell?_alloc_some wA _ _ (by rw [k2]; rfl)]; exact k2
      have k4 : wA.cell? ⟨PK, 3, none⟩ = some (.slice (some ⟨PB, 0, none⟩) n n) := by rw [hbel.out.cell (p := ⟨PK, 3, none⟩) (World.block_lt_of_cell? w _ hK)]; exact hK
      have k5 : (wA.alloc (Obj.cells #[.int .i64 p, .int .i64 q] 95)).cell? ⟨PK, 3, none⟩ = some (.slice (some ⟨PB, 0, none⟩) n n) := by rw [World.cell?_alloc_some wA _ _ (by rw [k4]; rfl)]; exact k4
      have HA : Hid (a = some ⟨BB, 0, none⟩) := ha
      subst ha
      have HUE : Hid (uF q = u) := hue
      clear c0 c1 cp hpe hqe hte hxe hue hse HNX
      obtain ⟨sn, HSN⟩ : ∃ sn, Hid (sn = costF P (L.take (k + 1))) := ⟨_, rfl⟩
      rw [← HSN.out] at hadd
      have i1 : (0 : Int) ≤ (p : Int) := by omega
      have i2 : (p : Int) < (n : Int) := by omega
      go_wp2_with fail
      go_quiet ((go_at_call 17; exact Calls.quiet_of_same (units' q _ u hq16 HUE.out)))
      go_wp2
      go_roundw
      case rel => exact ⟨k + 1, by omega, by go_num, val_float HSN.out, belowN (hbel.out.alloc hsz _) _⟩
      case measure => simp [intOf]; omega
    · have e : k = m := by omega
      subst e
      have HT : Hid (L.take k = L) := by rw [HM.out]; exact List.take_length
      rw [HT.out]
      go_wp2
      go_ret
      exact ⟨rfl, hbel.out⟩


set_option maxHeartbeats 1000000 in
/-- c.bundle(b): the option of the bid's k, its bundle. -/
theorem bundle (w : World) (CK BK OB k : Nat) (h1 : w.cell? ⟨CK, 1, none⟩ = some (.slice (some ⟨OB, 0, none⟩) 2 2)) (h2 : w.cell? ⟨BK, 0, none⟩ = some (.int .i64 k)) (hk : k < 2) (a : Option Addr) (m c : Nat) (h3 : w.cell? ⟨OB, k * 10 + 2, none⟩ = some (.slice a m c)) :
    Calls Yba.prog 16 #[.pointer (some ⟨CK, 0, none⟩), .pointer (some ⟨BK, 0, none⟩)] w fun e w' => e = .returned (.slice a m c) ∧ ∃ n, w' = w.drewN n := by
  have i1 : (0 : Int) ≤ (k : Int) := by omega
  have i2 : (k : Int) < 2 := by omega
  go_enter Yba.func16, Yba.ntmps16
  go_wp2_with fail
  go_quiet (fail)
  go_wp2
  go_ret
  exact ⟨rfl, _, rfl⟩

end Go.Proofs.Ybulkluw
