/-
  Seat b0620a. boundCost (13), by its contracts: without shared costs; with a cost that stands; with one that is reckoned anew.
-/
import Derived.Test.YbulkluwCCost
namespace Go.Proofs.Ybulkluw
open Go.RowKit
attribute [local go_sem] run_store_float

theorem eqNil (w : World) (a : Option Addr) (n c : Nat) : (binOp .eql 76 (.slice a n c) (.slice none 0 0)).run Yba.prog w = .ok (.bool a.isNone) w := Lib.run_eql_slice_nil w 76 82 a n c 0 0 Yba.underlying76

set_option maxRecDepth 100000 in
set_option maxHeartbeats 1000000 in
theorem bound_nil (w : World) (PK CK BK OB PB k : Nat) (P : List Int) (L : List (Nat × Int)) (a : Option Addr) (m c n : Nat) (h1 : w.cell? ⟨CK, 1, none⟩ = some (.slice (some ⟨OB, 0, none⟩) 2 2)) (h2 : w.cell? ⟨BK, 0, none⟩ = some (.int .i64 k)) (hk : k < 2) (h3 : w.cell? ⟨OB, k * 10 + 2, none⟩ = some (.slice a m c)) (h4 : w.cell? ⟨PK, 3, none⟩ = some (.slice (some ⟨PB, 0, none⟩) n n)) (h5 : w.cell? ⟨CK, 3, none⟩ = some (.slice none 0 0))
    (hP : PfAt w PB P) (hL : BunAt w a L P.length) (hn : n = P.length) (hm : m = L.length) (hm2 : m ≤ 1024) :
    Calls Yba.prog 13 #[.pointer (some ⟨PK, 0, none⟩), .pointer (some ⟨CK, 0, none⟩), .pointer (some ⟨BK, 0, none⟩)] w fun e w' => e = .returned (.float .f64 (costF P L)) ∧ Below w.heap.size w w' := by
  have HP : Hid (PfAt w PB P) := hP
  have HL : Hid (BunAt w a L P.length) := hL
  have HN : Hid (n = P.length) := hn
  have HM : Hid (m = L.length) := hm
  clear hP hL hn hm
  have hnil := eqNil
  go_enter Yba.func13, Yba.ntmps13
  go_wp2_with fail
  refine (bundle w CK BK OB k h1 h2 hk a m c h3).mono ?_
  rintro e w1 ⟨rfl, nq, rfl⟩
  have hb : Below w.heap.size w (w.drewN nq) := belowN (Below.refl _ _) nq
  go_wp2_with fail
  refine (costOf (w.drewN nq) PB PK P a c L (HP.out.below hb HP.out.1) (HL.out.below hb (Nat.le_refl _)) n m HN.out HM.out hm2 (by rw [hb.cell (World.block_lt_of_cell? w _ h4)]; exact h4)).mono ?_
  rintro e w2 ⟨rfl, hb2⟩
  go_wp2
  go_ret
  exact ⟨rfl, hb.trans (hb2.mono hb.size)⟩


set_option maxRecDepth 100000 in
set_option maxHeartbeats 1000000 in
theorem bound_kept (w : World) (PK CK BK SB k : Nat) (B : Int) (f : Nat) (h2 : w.cell? ⟨BK, 0, none⟩ = some (.int .i64 k)) (hk : k < 2) (h5 : w.cell? ⟨CK, 3, none⟩ = some (.slice (some ⟨SB, 0, none⟩) 2 2)) (h6 : w.cell? ⟨PK, 26, none⟩ = some (.int .i64 B)) (h7 : w.cell? ⟨SB, k * 2, none⟩ = some (.int .i64 B)) (h8 : w.cell? ⟨SB, k * 2 + 1, none⟩ = some (.float .f64 f)) :
    Calls Yba.prog 13 #[.pointer (some ⟨PK, 0, none⟩), .pointer (some ⟨CK, 0, none⟩), .pointer (some ⟨BK, 0, none⟩)] w fun e w' => e = .returned (.float .f64 f) ∧ ∃ n, w' = w.drewN n := by
  have hnil := eqNil
  have i1 : (0 : Int) ≤ (k : Int) := by omega
  have i2 : (k : Int) < 2 := by omega
  go_enter Yba.func13, Yba.ntmps13
  go_wp2_with fail
  go_quiet (fail)
  go_wp2_with fail
  go_quiet (fail)
  go_wp2
  go_ret
  exact ⟨rfl, _, rfl⟩

/-- All is as it was but the two cells of the k-th shared cost. -/
def Fr (w w' : World) (SB k : Nat) : Prop :=
  w.heap.size ≤ w'.heap.size ∧ (∀ b o, b < w.heap.size → ¬ (b = SB ∧ (o = k * 2 ∨ o = k * 2 + 1)) → w'.cell? ⟨b, o, none⟩ = w.cell? ⟨b, o, none⟩) ∧ (∀ N, N ≤ SB → N ≤ w.heap.size → Below N w w') ∧ ∀ b o, b < w.heap.size → w'.frozen? ⟨b, o, none⟩ = w.frozen? ⟨b, o, none⟩

theorem Fr.refl (w : World) (SB k : Nat) : Fr w w SB k := ⟨Nat.le_refl _, fun _ _ _ _ => rfl, fun _ _ _ => Below.refl _ _, fun _ _ _ => rfl⟩
theorem Fr.below {w w1 w2 : World} {SB k : Nat} (h : Fr w w1 SB k) (hb : Below w1.heap.size w1 w2) : Fr w w2 SB k := by
  obtain ⟨h1, h2, h3, h4⟩ := h
  refine ⟨Nat.le_trans h1 hb.size, fun b o hb' hne => ?_, fun N hN hN2 => (h3 N hN hN2).trans (hb.mono (by omega)), fun b o hb' => ?_⟩
  · rw [hb.cell (p := ⟨b, o, none⟩) (by simp; omega)]; exact h2 b o hb' hne
  · rw [hb.frozen (p := ⟨b, o, none⟩) (by simp; omega)]; exact h4 b o hb'
theorem Fr.set {w w1 : World} {SB k o : Nat} {v : Value} (h : Fr w w1 SB k) (ho : o = k * 2 ∨ o = k * 2 + 1) : Fr w (w1.setCell ⟨SB, o, none⟩ v) SB k := by
  obtain ⟨h1, h2, h3, h4⟩ := h
  refine ⟨by simpa [World.setCell] using h1, fun b o' hb' hne => ?_, fun N hN hN2 => (h3 N hN hN2).setCell (p := ⟨SB, o, none⟩) hN _, fun b o' hb' => by simpa using h4 b o' hb'⟩
  rw [set_other (by omega)]; exact h2 b o' hb' hne
theorem Fr.drewN {w w1 : World} {SB k : Nat} (h : Fr w w1 SB k) (n : Nat) : Fr w (w1.drewN n) SB k := h.below (belowN (Below.refl _ _) n)
theorem Fr.drew {w w1 : World} {SB k : Nat} (h : Fr w w1 SB k) : Fr w w1.drew SB k := h.below (Below.refl _ _).drew
theorem Fr.at {w w1 : World} {SB k : Nat} (h : Fr w w1 SB k) {b o : Nat} {v : Value} (hc : w.cell? ⟨b, o, none⟩ = some v) (hne : ¬ (b = SB ∧ (o = k * 2 ∨ o = k * 2 + 1))) : w1.cell? ⟨b, o, none⟩ = some v := by
  rw [h.2.1 b o (World.block_lt_of_cell? w _ hc) hne]; exact hc
theorem Fr.pf {w w1 : World} {SB k PB : Nat} {P : List Int} (h : Fr w w1 SB k) (hP : PfAt w PB P) (hne : PB ≠ SB) : PfAt w1 PB P :=
  ⟨Nat.lt_of_lt_of_le hP.1 h.1, fun i hi => ⟨h.at (hP.2 i hi).1 (by omega), (hP.2 i hi).2⟩⟩
theorem Fr.bun {w w1 : World} {SB k n : Nat} {a : Option Addr} {L : List (Nat × Int)} (h : Fr w w1 SB k) (hL : BunAt w a L n) (hne : ∀ BB, a = some ⟨BB, 0, none⟩ → BB ≠ SB) : BunAt w1 a L n := fun j hj => by
  obtain ⟨BB, h1, h2, h3, h4, h5⟩ := hL j hj
  have := hne BB h1
  exact ⟨BB, h1, Nat.lt_of_lt_of_le h2 h.1, h.at h3 (by omega), h.at h4 (by omega), h5⟩

theorem bundle_b (w w1 : World) (CK BK OB k : Nat) (a : Option Addr) (m c : Nat) (hb : Below w.heap.size w w1) (h1 : w.cell? ⟨CK, 1, none⟩ = some (.slice (some ⟨OB, 0, none⟩) 2 2)) (h2 : w.cell? ⟨BK, 0, none⟩ = some (.int .i64 k)) (hk : k < 2) (h3 : w.cell? ⟨OB, k * 10 + 2, none⟩ = some (.slice a m c)) :
    Calls Yba.prog 16 #[.pointer (some ⟨CK, 0, none⟩), .pointer (some ⟨BK, 0, none⟩)] w1 fun e w' => e = .returned (.slice a m c) ∧ Below w.heap.size w w' := by
  refine (bundle w1 CK BK OB k ?_ ?_ hk a m c ?_).mono ?_
  · rw [hb.cell (World.block_lt_of_cell? w _ h1)]; exact h1
  · rw [hb.cell (World.block_lt_of_cell? w _ h2)]; exact h2
  · rw [hb.cell (World.block_lt_of_cell? w _ h3)]; exact h3
  · rintro e w' ⟨rfl, n, rfl⟩
    exact ⟨rfl, belowN hb n⟩
theorem costOf_b (w w1 : World) (PB PK : Nat) (P : List Int) (a : Option Addr) (c : Nat) (L : List (Nat × Int)) (hb : Below w.heap.size w w1) (hP : PfAt w PB P) (hL : BunAt w a L P.length) (n m : Nat) (hn : n = P.length) (hm : m = L.length) (hm2 : m ≤ 1024) (hK : w.cell? ⟨PK, 3, none⟩ = some (.slice (some ⟨PB, 0, none⟩) n n)) (fc : Nat) (hf : fc = costF P L) :
    Calls Yba.prog 15 #[.pointer (some ⟨PK, 0, none⟩), .slice a m c] w1 fun e w' => e = .returned (.float .f64 fc) ∧ Below w.heap.size w w' := by
  subst hf
  refine (costOf w1 PB PK P a c L (hP.below hb hP.1) (hL.below hb (Nat.le_refl _)) n m hn hm hm2 (by rw [hb.cell (World.block_lt_of_cell? w _ hK)]; exact hK)).mono ?_
  rintro e w2 ⟨rfl, hb2⟩
  exact ⟨rfl, hb.trans (hb2.mono hb.size)⟩
theorem kept {w w1 : World} (hb : Below w.heap.size w w1) {p : Addr} {v : Value} (h : w.cell? p = some v) : w1.cell? p = some v := by
  rw [hb.cell (World.block_lt_of_cell? w _ h)]; exact h
theorem keptF {w w1 : World} (hb : Below w.heap.size w w1) {p : Addr} {v : Value} (h : w.cell? p = some v) (hf : w.frozen? p = false) : w1.frozen? p = false := by
  rw [hb.frozen (World.block_lt_of_cell? w _ h)]; exact hf

set_option maxRecDepth 100000 in
set_option maxHeartbeats 4000000 in
theorem bound_anew (w : World) (PK CK BK OB PB SB k : Nat) (P : List Int) (L : List (Nat × Int)) (a : Option Addr) (m c n : Nat) (A B : Int) (f0 : Nat) (h1 : w.cell? ⟨CK, 1, none⟩ = some (.slice (some ⟨OB, 0, none⟩) 2 2)) (h2 : w.cell? ⟨BK, 0, none⟩ = some (.int .i64 k)) (hk : k < 2) (h3 : w.cell? ⟨OB, k * 10 + 2, none⟩ = some (.slice a m c)) (h4 : w.cell? ⟨PK, 3, none⟩ = some (.slice (some ⟨PB, 0, none⟩) n n)) (h5 : w.cell? ⟨CK, 3, none⟩ = some (.slice (some ⟨SB, 0, none⟩) 2 2))
    (h6 : w.cell? ⟨PK, 26, none⟩ = some (.int .i64 B)) (h7 : w.cell? ⟨SB, k * 2, none⟩ = some (.int .i64 A)) (h8 : w.cell? ⟨SB, k * 2 + 1, none⟩ = some (.float .f64 f0)) (h9 : ∀ o, w.frozen? ⟨SB, o, none⟩ = false) (hAB : A ≠ B) (hd : PK ≠ SB ∧ CK ≠ SB ∧ BK ≠ SB ∧ OB ≠ SB ∧ PB ≠ SB ∧ ∀ BB, a = some ⟨BB, 0, none⟩ → BB ≠ SB)
    (hP : PfAt w PB P) (hL : BunAt w a L P.length) (hn : n = P.length) (hm : m = L.length) (hm2 : m ≤ 1024) :
    Calls Yba.prog 13 #[.pointer (some ⟨PK, 0, none⟩), .pointer (some ⟨CK, 0, none⟩), .pointer (some ⟨BK, 0, none⟩)] w fun e w' => e = .returned (.float .f64 (costF P L)) ∧ Fr w w' SB k ∧ w'.cell? ⟨SB, k * 2, none⟩ = some (.int .i64 B) ∧ w'.cell? ⟨SB, k * 2 + 1, none⟩ = some (.float .f64 (costF P L)) := by
  have HP : Hid (PfAt w PB P) := hP
  have HL : Hid (BunAt w a L P.length) := hL
  have HN : Hid (n = P.length) := hn
  have HM : Hid (m = L.length) := hm
  have HD : Hid (PK ≠ SB ∧ CK ≠ SB ∧ BK ≠ SB ∧ OB ≠ SB ∧ PB ≠ SB ∧ ∀ BB, a = some ⟨BB, 0, none⟩ → BB ≠ SB) := hd
  have H1 : Hid (w.cell? ⟨CK, 1, none⟩ = some (.slice (some ⟨OB, 0, none⟩) 2 2) ∧ w.cell? ⟨BK, 0, none⟩ = some (.int .i64 k) ∧ w.cell? ⟨OB, k * 10 + 2, none⟩ = some (.slice a m c) ∧ w.cell? ⟨PK, 3, none⟩ = some (.slice (some ⟨PB, 0, none⟩) n n) ∧ w.cell? ⟨SB, k * 2, none⟩ = some (.int .i64 A) ∧ w.cell? ⟨SB, k * 2 + 1, none⟩ = some (.float .f64 f0)) := ⟨h1, h2, h3, h4, h7, h8⟩
  obtain ⟨fc, HF⟩ : ∃ fc, Hid (fc = costF P L) := ⟨_, rfl⟩
  rw [← HF.out]
  have hSP : SB ≠ PK := Ne.symm hd.1
  clear hP hL hn hm hd
  have hnil := eqNil
  have i1 : (0 : Int) ≤ (k : Int) := by omega
  have i2 : (k : Int) < 2 := by omega
  go_enter Yba.func13, Yba.ntmps13
  go_wp2_with fail
  go_quiet (fail)
  go_wp2_with fail
  go_quiet (fail)
  go_wp2_with fail
  go_region_held3 (fun w' => w'.cell? ⟨PK, 26, none⟩ = some (.int .i64 B)) (first | go_keep)
    (first | (go_at_call 16; refine (bundle_b w _ CK BK OB k a m c (belowN (Below.refl _ _) _) H1.out.1 H1.out.2.1 hk H1.out.2.2.1).mono ?_; rintro e w1 ⟨rfl, hb1⟩; have HB1 : Hid (Below w.heap.size w w1) := hb1; clear hb1; have d1 := kept HB1.out h6) | (go_at_call 15; refine (costOf_b w _ PB PK P a c L (by first | exact HB1.out | exact HB1.out.drew | exact belowN HB1.out _) HP.out HL.out n m HN.out HM.out hm2 H1.out.2.2.2.1 fc HF.out).mono ?_; rintro e w2 ⟨rfl, hb2⟩; have HB2 : Hid (Below w.heap.size w w2) := hb2; clear hb2; have d2 := kept HB2.out h6; have d3 := kept HB2.out H1.out.2.2.2.2.1; have d4 := kept HB2.out H1.out.2.2.2.2.2; have d5 := keptF HB2.out H1.out.2.2.2.2.1 (h9 _); have d6 := keptF HB2.out H1.out.2.2.2.2.2 (h9 _)))
  go_wp2
  go_ret
  refine ⟨rfl, ?_, ?_, ?_⟩
  · exact (((Fr.refl w SB k).below HB2.out).set (Or.inl rfl)).set (Or.inr rfl)
  · rw [set_other (by omega)]; exact set_same d3
  · exact set_same (u := .float .f64 f0) (by rw [set_other (by omega)]; exact d4)

end Go.Proofs.Ybulkluw
