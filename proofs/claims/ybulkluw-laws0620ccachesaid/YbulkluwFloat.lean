/-
  Seat b0620a. FLOATS, PLAIN: finite numbers of bounded place stay finite under one quotient by 8 or 1000 and one product; a sum of finite numbers, in whatever order of rounding, is never a NaN; what is no NaN equals itself. Over the model's float core alone.
-/
import Derived.Laws.FloatArith
namespace Go.Proofs.Ybulkluw
open Ieee

/-- The word reads as a number whose last digit's place is at most R. -/
def FinF (R : Int) (x : Nat) : Prop := ∃ s m p, double.read x = .number s m p ∧ m < 2 ^ 53 ∧ p ≤ R
def NotNaN (x : Nat) : Prop := (∃ s m p, double.read x = .number s m p) ∨ ∃ s, double.read x = .infinity s

theorem FinF.notNaN {R : Int} {x : Nat} (h : FinF R x) : NotNaN x := by
  obtain ⟨s, m, p, h, _⟩ := h
  exact Or.inl ⟨s, m, p, h⟩

theorem binade_eq : double.binade = 4503599627370496 := by decide
theorem sign_eq : double.signWeight = 9223372036854775808 := by decide
theorem inf_eq : double.infRung = 9218868437227405312 := by decide
theorem least_eq : double.leastPlace = -1074 := by decide

theorem word_parts (neg : Bool) (r : Nat) (h : r < 9223372036854775808) : double.word neg r % double.signWeight = r ∧ (double.word neg r / double.signWeight % 2 == 1) = neg := by
  rw [sign_eq]
  unfold Format.word
  rw [sign_eq]
  cases neg
  · simp
    exact ⟨h, by rw [Nat.div_eq_of_lt h]⟩
  · simp
    exact ⟨h, by omega⟩

/-- What a word of a sign and a rung below infinity's reads as. -/
theorem read_word (neg : Bool) (r : Nat) (h : r < 9218868437227405312) : ∃ m p, double.read (double.word neg r) = .number neg m p ∧ m < 2 ^ 53 ∧ p ≤ -1074 + (r / 4503599627370496 : Nat) := by
  obtain ⟨h1, h2⟩ := word_parts neg r (by omega)
  unfold Format.read
  simp only [h1, h2, binade_eq, inf_eq, least_eq]
  by_cases hb : r < 4503599627370496
  · rw [if_pos hb]
    exact ⟨r, -1074, rfl, by omega, by omega⟩
  · rw [if_neg hb, if_pos h]
    exact ⟨_, _, rfl, by omega, by omega⟩

theorem read_inf (neg : Bool) : double.read (double.word neg 9218868437227405312) = .infinity neg := by
  obtain ⟨h1, h2⟩ := word_parts neg 9218868437227405312 (by omega)
  unfold Format.read
  simp only [h1, h2, binade_eq, inf_eq]
  rfl

theorem nearest_shape (neg : Bool) (mag : Nat) (place : Int) : ∃ r, r ≤ 9218868437227405312 ∧ double.nearest neg mag place = double.word neg r := by
  unfold Format.nearest
  split
  · exact ⟨0, by omega, rfl⟩
  · refine ⟨_, ?_, rfl⟩
    rw [inf_eq]
    exact Nat.min_le_right _ _

theorem word_notNaN (neg : Bool) (r : Nat) (h : r ≤ 9218868437227405312) : NotNaN (double.word neg r) := by
  by_cases e : r = 9218868437227405312
  · subst e
    exact Or.inr ⟨neg, read_inf neg⟩
  · obtain ⟨m, p, h1, _⟩ := read_word neg r (by omega)
    exact Or.inl ⟨neg, m, p, h1⟩

theorem write_notNaN {d : Datum} (h : (∃ s m p, d = .number s m p) ∨ ∃ s, d = .infinity s) : NotNaN (double.write d) := by
  rcases h with ⟨s, m, p, rfl⟩ | ⟨s, rfl⟩
  · obtain ⟨r, hr, e⟩ := nearest_shape s m p
    show NotNaN (double.nearest s m p)
    rw [e]
    exact word_notNaN s r hr
  · show NotNaN (double.word s double.infRung)
    rw [inf_eq]
    exact word_notNaN s _ (Nat.le_refl _)

/-- Rounding to the nearest: at most 53 digits are kept. -/
theorem cut_le (neg : Bool) (n drop : Nat) (h : n < 2 ^ (53 + drop)) : Toward.even.cut neg n drop ≤ 2 ^ 53 := by
  unfold Toward.cut
  simp only
  have hlow : n / (1 <<< min drop (n.log2 + 2)) < 2 ^ 53 := by
    rw [Nat.shiftLeft_eq, Nat.one_mul]
    by_cases hd : drop ≤ n.log2 + 2
    · rw [Nat.min_eq_left hd]
      refine (Nat.div_lt_iff_lt_mul (Nat.two_pow_pos _)).2 ?_
      rw [← Nat.pow_add]
      exact h
    · rw [Nat.min_eq_right (by omega)]
      have : n < 2 ^ (n.log2 + 2) := Nat.lt_of_lt_of_le (Nat.lt_log2_self) (Nat.pow_le_pow_right (by decide) (by omega))
      rw [Nat.div_eq_of_lt this]
      exact Nat.two_pow_pos _
  have hb : ∀ b : Bool, b.toNat ≤ 1 := fun b => by cases b <;> decide
  have := hb (decide (1 <<< min drop (n.log2 + 2) < 2 * (n % 1 <<< min drop (n.log2 + 2))) || (1 <<< min drop (n.log2 + 2) == 2 * (n % 1 <<< min drop (n.log2 + 2)) && n / 1 <<< min drop (n.log2 + 2) % 2 == 1))
  omega

/-- A number of fewer than K digits at place p, p + K at most 900, is written as a finite word. -/
theorem write_fin (s : Bool) (m : Nat) (p : Int) (K : Nat) (R : Int) (h : m < 2 ^ K) (hp : p + K ≤ 900) (hR : p + K - 50 ≤ R) (hR2 : -1000 ≤ R) : FinF R (double.write (.number s m p)) := by
  show FinF R (double.nearest s m p)
  unfold Format.nearest
  by_cases h0 : m = 0
  · rw [if_pos h0]
    obtain ⟨m', p', h1, h2, h3⟩ := read_word s 0 (by omega)
    exact ⟨s, m', p', h1, h2, by omega⟩
  · rw [if_neg h0]
    have hlog : m.log2 < K := (Nat.log2_lt h0).2 h
    have hlast : max (p + (m.log2 : Int) - (double.fractionBits : Int)) double.leastPlace ≤ max (p + K - 53) (-1074) := by
      rw [least_eq]
      have : (double.fractionBits : Int) = 52 := rfl
      omega
    have hlast0 : -1074 ≤ max (p + (m.log2 : Int) - (double.fractionBits : Int)) double.leastPlace := by
      rw [least_eq]; omega
    have hlast1 : p + (m.log2 : Int) - 52 ≤ max (p + (m.log2 : Int) - (double.fractionBits : Int)) double.leastPlace := by
      have : (double.fractionBits : Int) = 52 := rfl
      omega
    simp only
    generalize max (p + (m.log2 : Int) - (double.fractionBits : Int)) double.leastPlace = last at *
    have hm2 : m < 2 ^ (m.log2 + 1) := Nat.lt_log2_self
    have hkept : Toward.even.cut s (m <<< (p - last).toNat) (last - p).toNat ≤ 2 ^ 53 := by
      refine cut_le s _ _ ?_
      rw [Nat.shiftLeft_eq]
      have h1 : m * 2 ^ (p - last).toNat < 2 ^ (m.log2 + 1) * 2 ^ (p - last).toNat := Nat.mul_lt_mul_of_pos_right hm2 (Nat.two_pow_pos _)
      rw [← Nat.pow_add] at h1
      exact Nat.lt_of_lt_of_le h1 (Nat.pow_le_pow_right (by decide) (by omega))
    generalize Toward.even.cut s (m <<< (p - last).toNat) (last - p).toNat = kept at *
    rw [binade_eq, inf_eq, least_eq]
    have e53 : (2 : Nat) ^ 53 = 9007199254740992 := by decide
    rw [e53] at hkept
    have hr : (last - -1074).toNat * 4503599627370496 + kept < 9218868437227405312 := by omega
    rw [Nat.min_eq_left (Nat.le_of_lt hr)]
    obtain ⟨m', p', g1, g2, g3⟩ := read_word s _ hr
    refine ⟨s, m', p', g1, g2, ?_⟩
    have : ((last - -1074).toNat * 4503599627370496 + kept) / 4503599627370496 ≤ (last - -1074).toNat + 2 := by omega
    omega

/-! ### The operations -/
def fmul (x y : Nat) : Nat := (floatBits .mul .f64 x y).getD 0
def fadd (x y : Nat) : Nat := (floatBits .add .f64 x y).getD 0
def fquo (x y : Nat) : Nat := (floatBits .quo .f64 x y).getD 0

theorem ofInt_fin (n : Int) (h1 : -2147483648 ≤ n) (h2 : n ≤ 2147483647) : FinF 0 (floatOfInt .f64 n) :=
  write_fin (n < 0) n.natAbs 0 32 0 (by have : (2 : Nat) ^ 32 = 4294967296 := by decide
                                        omega) (by omega) (by omega) (by omega)

theorem mul_fin {R S : Int} {x y : Nat} (hx : FinF R x) (hy : FinF S y) (h : R + S ≤ 790) (h2 : -1050 ≤ R + S) : floatBits .mul .f64 x y = some (fmul x y) ∧ FinF (R + S + 56) (fmul x y) := by
  obtain ⟨s, m, p, e1, hm, hp⟩ := hx
  obtain ⟨t, n, q, e2, hn, hq⟩ := hy
  have e : floatBits .mul .f64 x y = some (double.write (.number (s ^^ t) (m * n) (p + q))) := by
    show ((double.read x).product (double.read y)).map double.write = _
    rw [e1, e2]
    rfl
  have hmn : m * n < 2 ^ 106 := by
    have : m * n < 2 ^ 53 * 2 ^ 53 := Nat.mul_lt_mul'' hm hn
    rwa [← Nat.pow_add] at this
  have hf := write_fin (s ^^ t) (m * n) (p + q) 106 (R + S + 56) hmn (by omega) (by omega) (by omega)
  unfold fmul
  rw [e]
  exact ⟨rfl, hf⟩

theorem add_ok {R : Int} {x y : Nat} (hx : NotNaN x) (hy : FinF R y) : floatBits .add .f64 x y = some (fadd x y) ∧ NotNaN (fadd x y) := by
  obtain ⟨t, n, q, e2, hn, hq⟩ := hy
  rcases hx with ⟨s, m, p, e1⟩ | ⟨s, e1⟩
  · obtain ⟨a, b, c, hs⟩ : ∃ a b c, (Datum.number s m p).sum (.number t n q) = some (.number a b c) := ⟨_, _, _, rfl⟩
    have e : floatBits .add .f64 x y = some (double.write (.number a b c)) := by
      show ((double.read x).sum (double.read y)).map double.write = _
      rw [e1, e2, hs]
      rfl
    unfold fadd
    rw [e]
    exact ⟨rfl, write_notNaN (Or.inl ⟨a, b, c, rfl⟩)⟩
  · have e : floatBits .add .f64 x y = some (double.write (.infinity s)) := by
      show ((double.read x).sum (double.read y)).map double.write = _
      rw [e1, e2]
      rfl
    unfold fadd
    rw [e]
    exact ⟨rfl, write_notNaN (Or.inr ⟨s, rfl⟩)⟩

/-- A finite number over a normal number n * 2^j, n of 53 digits. -/
theorem quo_fin {R : Int} {x c n : Nat} {j : Int} (hx : FinF R x) (hc : double.read c = .number false n j) (hn1 : 2 ^ 52 ≤ n) (hn2 : n < 2 ^ 53) (hj : -60 ≤ j) (hj2 : j ≤ 60) (h : R ≤ 700) (h2 : -900 ≤ R) :
    floatBits .quo .f64 x c = some (fquo x c) ∧ FinF (R + 70) (fquo x c) := by
  obtain ⟨s, m, p, e1, hm, hp⟩ := hx
  have hn0 : n ≠ 0 := by
    have := Nat.two_pow_pos 52
    omega
  have hnl : n.log2 = 52 := by
    have a := (Nat.log2_lt hn0).2 hn2
    have b : ¬ n.log2 < 52 := fun hh => by
      have := (Nat.log2_lt hn0).1 hh
      omega
    omega
  have hml : m.log2 ≤ 52 := by
    by_cases h0 : m = 0
    · subst h0; decide
    · have := (Nat.log2_lt h0).2 hm
      omega
  have e : ∃ a b q, floatBits .quo .f64 x c = some (double.write (.number a b q)) ∧ b < 2 ^ 57 ∧ q ≤ R + 5 := by
    refine ⟨s ^^ false, 2 * ((m <<< (54 + n.log2 - m.log2)) / n) + ((m <<< (54 + n.log2 - m.log2)) % n != 0).toNat, p - j - ((54 + n.log2 - m.log2 : Nat) : Int) - 1, ?_, ?_, ?_⟩
    · show ((double.read x).quotient 54 (double.read c)).map double.write = _
      rw [e1, hc]
      simp only [Datum.quotient, if_neg hn0]
      rfl
    · have hb : ((m <<< (54 + n.log2 - m.log2)) % n != 0).toNat ≤ 1 := by cases ((m <<< (54 + n.log2 - m.log2)) % n != 0) <;> decide
      have hd : (m <<< (54 + n.log2 - m.log2)) / n < 2 ^ 55 := by
        refine (Nat.div_lt_iff_lt_mul (by omega)).2 ?_
        rw [Nat.shiftLeft_eq, hnl]
        have h1 : m * 2 ^ (54 + 52 - m.log2) < 2 ^ (m.log2 + 1) * 2 ^ (54 + 52 - m.log2) := Nat.mul_lt_mul_of_pos_right Nat.lt_log2_self (Nat.two_pow_pos _)
        rw [← Nat.pow_add] at h1
        have h2 : m.log2 + 1 + (54 + 52 - m.log2) = 55 + 52 := by omega
        rw [h2, Nat.pow_add] at h1
        exact Nat.lt_of_lt_of_le h1 (Nat.mul_le_mul_left _ hn1)
      have e57 : (2 : Nat) ^ 57 = 144115188075855872 := by decide
      have e55 : (2 : Nat) ^ 55 = 36028797018963968 := by decide
      rw [e55] at hd
      omega
    · rw [hnl]
      omega
  obtain ⟨a, b, q, e, hb, hq⟩ := e
  unfold fquo
  rw [e]
  exact ⟨rfl, write_fin a b q 57 (R + 70) hb (by omega) (by omega) (by omega)⟩

theorem zero_fin : FinF 0 0 := ⟨false, 0, -1074, by decide, by decide, by decide⟩

/-- What is no NaN equals itself. -/
theorem order_self {x : Nat} (h : NotNaN x) : FloatKind.f64.format.order x x = some .eq := by
  show (double.read x).order (double.read x) = some .eq
  rcases h with ⟨s, m, p, e⟩ | ⟨s, e⟩
  · rw [e]
    simp [Datum.order]
  · rw [e]
    simp [Datum.order]

end Go.Proofs.Ybulkluw
