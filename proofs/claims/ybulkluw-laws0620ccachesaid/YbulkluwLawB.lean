/-
  Seat b0620a. LawS0620BExact (3) and LawS0620BGreatestFit (4): the walks, out of the contracts; math/bits.Mul64 (10) by the guide's shelf, laid at this dump in plain words.
-/
import Derived.Test.YbulkluwBuild
import Derived.Shelf.Bits.Mul64
namespace Go.Proofs.Ybulkluw
open Go.RowKit Go.Shelf

/-! ### Mul64 -/
def ren264 : Ren := ⟨fun | 264 => 10 | n => n, fun | 53 => 28 | 46 => 102 | n => n, fun | n => n⟩
theorem lays264 : Lays.n264 Yba.prog ren264 := {
  mixed := by kernel_rfl
  f264 := Yba.func10.trans (congrArg some (by kernel_rfl))
  t46 := Yba.underlying102
  a46 := Yba.isAgg102
  z46 := Yba.sizeOf102
  v46 := Yba.zeroValue102
  t53 := Yba.underlying28
  a53 := Yba.isAgg28
  z53 := Yba.sizeOf28
  v53 := Yba.zeroValue28 }

/-- A product that fits 63 bits. -/
theorem mul_small (x y p : Int) (w : World) (hx : 0 ≤ x) (hx2 : x ≤ 4611686018427387904) (hy : 0 ≤ y) (hy2 : y ≤ 4611686018427387904) (hp : x * y = p) (h : p ≤ 9223372036854775808) :
    Calls Yba.prog 10 #[.int .u64 x, .int .u64 y] w fun e w' => e = .returned (.tuple #[.int .u64 0, .int .u64 p]) ∧ w' = w := by
  obtain ⟨a, rfl⟩ := Int.eq_ofNat_of_zero_le hx
  obtain ⟨b, rfl⟩ := Int.eq_ofNat_of_zero_le hy
  refine (Any.bits_Mul64 lays264 a b (by omega) (by omega) w).mono ?_
  rintro e w' ⟨rfl, rfl⟩
  have hab : ((a * b : Nat) : Int) = p := by rw [Int.natCast_mul]; exact hp
  have h1 : a * b / 18446744073709551616 = 0 := Nat.div_eq_of_lt (by omega)
  have h2 : a * b % 18446744073709551616 = a * b := Nat.mod_eq_of_lt (by omega)
  rw [h1, h2, hab]
  exact ⟨rfl, rfl⟩

/-! ### The plain law -/
theorem mm_law (L : Int) (h1 : 1 ≤ L) (h2 : L ≤ 4611686018427387904) :
    1 ≤ mmOf L ∧ mmOf L ≤ 1000000 ∧ (1 < mmOf L → mmOf L * L ≤ 4611686018427387903) ∧ (mmOf L < 1000000 → 4611686018427387903 < (mmOf L + 1) * L) ∧ mmOf L * L ≤ 4611686018427387904 ∧ (mmOf L < 1000000 → (mmOf L + 1) * L ≤ 9223372036854775808) := by
  have hd : 4611686018427387903 / L * L ≤ 4611686018427387903 := Int.ediv_mul_le _ (by omega)
  have hu : 4611686018427387903 < (4611686018427387903 / L + 1) * L := Int.lt_ediv_add_one_mul_self _ (by omega)
  have h0 : 0 ≤ 4611686018427387903 / L := Int.ediv_nonneg (by omega) (by omega)
  unfold mmOf
  generalize 4611686018427387903 / L = d at *
  by_cases hd1 : d < 1
  · have e : max (min 1000000 d) 1 = 1 := by omega
    have e0 : d = 0 := by omega
    subst e0
    rw [e]
    refine ⟨by omega, by omega, fun h => by omega, fun _ => by omega, by omega, fun _ => by omega⟩
  · by_cases hd2 : 1000000 < d
    · have e : max (min 1000000 d) 1 = 1000000 := by omega
      rw [e]
      have : (1000000 : Int) * L ≤ d * L := Int.mul_le_mul_of_nonneg_right (by omega) (by omega)
      exact ⟨by omega, by omega, fun _ => by omega, fun h => by omega, by omega, fun h => by omega⟩
    · have e : max (min 1000000 d) 1 = d := by omega
      rw [e]
      have hx : (d + 1) * L = d * L + L := by rw [Int.add_mul, Int.one_mul]
      exact ⟨by omega, by omega, fun _ => hd, fun _ => hu, by omega, fun _ => by omega⟩

/-! ### The argument, whatever it is -/
def RawArg (w : World) (a : Option Addr) (R : List (List (List (Int × Int)))) : Prop := R.length = 0 ∨ ∃ b off, a = some ⟨b, off, none⟩ ∧ RawAt w b off R

theorem small_nil : Small (qAll []) := ⟨by decide, fun row h => by simp [qAll] at h⟩

theorem ok_any (w : World) (a : Option Addr) (c : Nat) (R : List (List (List (Int × Int)))) (hR : RawArg w a R) :
    Calls Yba.prog 7 #[.slice a R.length c] w fun e w' => OkPost R e ∧ w' = w := by
  rcases hR with h0 | ⟨b, off, rfl, h⟩
  · have e : R = [] := List.length_eq_zero_iff.1 h0
    subst e
    refine (ok_zero a c w).mono ?_
    rintro e w' ⟨rfl, rfl⟩
    exact ⟨ok_yes [] ⟨by decide, fun i hi => absurd hi (by simp)⟩, rfl⟩
  · exact ok_some w b off c R h R.length rfl

set_option maxRecDepth 100000 in
set_option maxHeartbeats 1000000 in
theorem build_zero (w : World) (a : Option Addr) (c : Nat) :
    Calls Yba.prog 8 #[.slice a 0 c] w fun e w' => e = .returned (.tuple #[.slice (some ⟨w.heap.size, 0, none⟩) 0 0, .int .i64 1]) ∧ Below w.heap.size w w' ∧ w.heap.size < w'.heap.size := by
  obtain ⟨i1, hi1, hz1, hs1, hb1⟩ : ∃ i, Yba.prog.info? 101 = some i ∧ i.zero = Yba.t101.zero ∧ i.size = 43 ∧ i.bytes = 416 := by
    obtain ⟨i, hi, he⟩ := Option.map_eq_some_iff.1 info101
    simp only [Prod.mk.injEq] at he
    exact ⟨i, hi, he.1, he.2.1, he.2.2⟩
  obtain ⟨Z, hz1'⟩ : ∃ Z : Array Value, Hid (Yba.t101.zero = some (.agg Z) ∧ Z.size = 43) := ⟨_, rfl, rfl⟩
  rw [hz1'.out.1] at hz1
  go_enter Yba.func8, Yba.ntmps8
  go_wp2_with (at_make; refine wpList_make_full _ rfl _ _ 24 rfl w.heap.size 101 i1 (.agg Z) 43 Yba.underlying24 hi1 hz1 hs1 .i64 .i64 _ _ 0 rfl rfl rfl rfl (by rw [hb1]; omega) (by unfold maxLen; omega) (Nat.le_refl _) ?_)
  intro w0 hown0 hgrow0
  obtain ⟨hsz0, hbel0, hcells0, hfr0⟩ := make_facts (z := .agg Z) (n := 0) (size := 43) (by exact hown0) hgrow0 hz1'.out.2
  have HH : Hid (Below w.heap.size w w0 ∧ w.heap.size < w0.heap.size) := ⟨hbel0, hsz0⟩
  clear hown0 hgrow0 hsz0 hbel0 hcells0 hfr0
  go_wp2
  refine wp_loop_rounds 1 ?_
  rw [rounds_succ]
  go_wp2
  go_ret2
  exact ⟨rfl, HH.out.1, HH.out.2⟩

theorem build_any (w : World) (a : Option Addr) (c : Nat) (R : List (List (List (Int × Int)))) (hR : RawArg w a R) (hS : SmallR R) :
    Calls Yba.prog 8 #[.slice a R.length c] w fun e w' => e = .returned (.tuple #[.slice (some ⟨w.heap.size, 0, none⟩) R.length R.length, .int .i64 (lg (qAll R))]) ∧ Below w.heap.size w w' ∧ w.heap.size < w'.heap.size ∧ KindsAt w' w.heap.size (qAll R) := by
  rcases hR with h0 | ⟨b, off, rfl, h⟩
  · have e : R = [] := List.length_eq_zero_iff.1 h0
    subst e
    refine (build_zero w a c).mono ?_
    rintro e w' ⟨rfl, h1, h2⟩
    exact ⟨rfl, h1, h2, fun i hi => absurd hi (by simp [qAll])⟩
  · exact build_some w b off c R h hS R.length rfl

theorem small_arg {w : World} {a : Option Addr} {R : List (List (List (Int × Int)))} (hR : RawArg w a R) (hS : SmallR R) : Small (qAll R) := by
  rcases hR with h0 | ⟨b, off, rfl, h⟩
  · have e : R = [] := List.length_eq_zero_iff.1 h0
    subst e
    exact small_nil
  · exact small_all h hS

theorem ret_bool {a b : Bool} (h : a = b) : Ending.returned (.bool a) = .returned (.bool b) := by rw [h]

set_option maxHeartbeats 1000000 in
theorem exact_any (w : World) (a : Option Addr) (c : Nat) (R : List (List (List (Int × Int)))) (hR : RawArg w a R) :
    Calls Yba.prog 3 #[.slice a R.length c] w fun e w' => e = .returned (.bool true) ∧ Below w.heap.size w w' := by
  obtain ⟨n, HN⟩ : ∃ n, Hid (n = R.length) := ⟨_, rfl⟩
  have HR : Hid (RawArg w a R) := hR
  clear hR
  rw [← HN.out]
  go_enter Yba.func3, Yba.ntmps3
  go_wp2_with fail
  rw [HN.out]
  refine (ok_any w a c R HR.out).mono ?_
  rintro e w1 ⟨⟨r, rfl, hr⟩, rfl⟩
  rw [← HN.out]
  cases r with
  | false =>
    clear hr
    go_wp2
    go_ret
    exact ⟨rfl, Below.refl _ _⟩
  | true =>
    have HS : Hid (SmallR R) := hr rfl
    clear hr
    go_wp2_with fail
    rw [HN.out]
    refine (build_any _ a c R HR.out HS.out).mono ?_
    rintro e w2 ⟨rfl, hb2, hlt2, hk2⟩
    have HB2 : Hid (Below w1.heap.size w1 w2 ∧ w1.heap.size < w2.heap.size ∧ KindsAt w2 w1.heap.size (qAll R)) := ⟨hb2, hlt2, hk2⟩
    clear hb2 hlt2 hk2
    rw [← HN.out]
    have hLb := lg_bound (qAll R) (small_arg HR.out HS.out) (qAll R).length (Nat.le_refl _)
    rw [List.take_length] at hLb
    go_wp2_with fail
    refine (most w2 w1.heap.size (qAll R) HB2.out.2.1 (small_arg HR.out HS.out) HB2.out.2.2 n (by rw [qAll_length]; exact HN.out)).mono ?_
    rintro e w3 ⟨rfl, hb3⟩
    have HB3 : Hid (Below w1.heap.size w1 w3) := HB2.out.1.trans (hb3.mono HB2.out.1.size)
    clear hb3
    generalize lg (qAll R) = L at *
    obtain ⟨M, HM⟩ : ∃ M, Hid (M = mmOf L) := ⟨_, rfl⟩
    rw [← HM.out]
    by_cases h1 : 1000000 < 4611686018427387903 / L
    · go_wp2
      go_ret
      exact ⟨ret_bool (by rw [HM.out]; unfold mmOf; simp; omega), HB3.out⟩
    · by_cases h2 : 4611686018427387903 / L < 1
      all_goals
        go_wp2
        go_ret
        exact ⟨ret_bool (by rw [HM.out]; unfold mmOf; simp; omega), HB3.out⟩

set_option maxHeartbeats 2000000 in
theorem fit_any (w : World) (a : Option Addr) (c : Nat) (R : List (List (List (Int × Int)))) (hR : RawArg w a R) :
    Calls Yba.prog 4 #[.slice a R.length c] w fun e w' => e = .returned (.bool true) ∧ Below w.heap.size w w' := by
  obtain ⟨n, HN⟩ : ∃ n, Hid (n = R.length) := ⟨_, rfl⟩
  have HR : Hid (RawArg w a R) := hR
  clear hR
  rw [← HN.out]
  go_enter Yba.func4, Yba.ntmps4
  go_wp2_with fail
  rw [HN.out]
  refine (ok_any w a c R HR.out).mono ?_
  rintro e w1 ⟨⟨r, rfl, hr⟩, rfl⟩
  rw [← HN.out]
  cases r with
  | false =>
    clear hr
    go_wp2
    go_ret
    exact ⟨rfl, Below.refl _ _⟩
  | true =>
    have HS : Hid (SmallR R) := hr rfl
    clear hr
    go_wp2_with fail
    rw [HN.out]
    refine (build_any _ a c R HR.out HS.out).mono ?_
    rintro e w2 ⟨rfl, hb2, hlt2, hk2⟩
    have HB2 : Hid (Below w1.heap.size w1 w2 ∧ w1.heap.size < w2.heap.size ∧ KindsAt w2 w1.heap.size (qAll R)) := ⟨hb2, hlt2, hk2⟩
    clear hb2 hlt2 hk2
    rw [← HN.out]
    have hLb := lg_bound (qAll R) (small_arg HR.out HS.out) (qAll R).length (Nat.le_refl _)
    rw [List.take_length] at hLb
    go_wp2_with fail
    refine (most w2 w1.heap.size (qAll R) HB2.out.2.1 (small_arg HR.out HS.out) HB2.out.2.2 n (by rw [qAll_length]; exact HN.out)).mono ?_
    rintro e w3 ⟨rfl, hb3⟩
    have HB3 : Hid (Below w1.heap.size w1 w3) := HB2.out.1.trans (hb3.mono HB2.out.1.size)
    clear hb3
    generalize lg (qAll R) = L at *
    obtain ⟨hL1, hL2⟩ := hLb
    have hmm := mm_law L hL1 hL2
    generalize mmOf L = M at *
    obtain ⟨m1, m2, m3, m4, m5, m6⟩ := hmm
    obtain ⟨p, hp⟩ : ∃ p, Hid (M * L = p) := ⟨_, rfl⟩
    obtain ⟨p2, hp2⟩ : ∃ p2, Hid ((M + 1) * L = p2) := ⟨_, rfl⟩
    rw [hp.out] at m3 m5
    rw [hp2.out] at m4 m6
    have hp0 : 0 ≤ p := by rw [← hp.out]; exact Int.mul_nonneg (by omega) (by omega)
    go_wp2_with fail
    refine (mul_small M L p _ (by omega) (by omega) (by omega) hL2 hp.out (by omega)).mono ?_
    rintro e w4 ⟨rfl, rfl⟩
    by_cases hM : 1 < M
    · have q3 := m3 hM
      by_cases hM2 : M < 1000000
      · have q4 := m4 hM2
        have q6 := m6 hM2
        clear m3 m4 m6
        go_wp2_with fail
        refine (mul_small (M + 1) L p2 _ (by omega) (by omega) (by omega) hL2 hp2.out q6).mono ?_
        rintro e w5 ⟨rfl, rfl⟩
        go_wp2
        go_ret
        exact ⟨rfl, HB3.out⟩
      · clear m3 m4 m6
        go_wp2
        go_ret
        exact ⟨rfl, HB3.out⟩
    · have hM2 : M < 1000000 := by omega
      have q4 := m4 hM2
      have q6 := m6 hM2
      clear m3 m4 m6
      go_wp2_with fail
      refine (mul_small (M + 1) L p2 _ (by omega) (by omega) (by omega) hL2 hp2.out q6).mono ?_
      rintro e w5 ⟨rfl, rfl⟩
      go_wp2
      go_ret
      exact ⟨rfl, HB3.out⟩

end Go.Proofs.Ybulkluw
