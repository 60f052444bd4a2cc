/-
  Seat b0620a. zzs0620cbuild (11), by its contract: the prices' floats, two options, the second's bundle.
-/
import Derived.Test.YbulkluwCBound
import Derived.Test.YbulkluwBuild
import Derived.Deep.AppendLies
namespace Go.Proofs.Ybulkluw
open Go.RowKit
attribute [local go_sem] run_store_float

theorem info37 : (Yba.prog.info? 37).map (fun i => (i.zero, i.size, i.bytes)) = some (some (.float .f64 0), 1, 8) := by kernel_rfl

/-! ### The arguments -/
def PrAt (w : World) (a : Option Addr) (P : List Int) : Prop :=
  ∀ i, i < P.length → ∃ b off, a = some ⟨b, off, none⟩ ∧ b < w.heap.size ∧ w.cell? ⟨b, off + i, none⟩ = some (.int .i16 (P.getD i 0)) ∧ Ok16 (P.getD i 0)
def ItAt (w : World) (a : Option Addr) (I : List (Nat × Int)) : Prop :=
  ∀ k, k < I.length → ∃ b off, a = some ⟨b, off, none⟩ ∧ b < w.heap.size ∧ w.cell? ⟨b, off + k * 2, none⟩ = some (.int .u8 ((I.getD k (0, 0)).1 : Nat)) ∧ w.cell? ⟨b, off + k * 2 + 1, none⟩ = some (.int .i16 (I.getD k (0, 0)).2) ∧ (I.getD k (0, 0)).1 ≤ 255 ∧ Ok16 (I.getD k (0, 0)).2

/-! ### The prices' floats -/
def PfTo (w : World) (PB : Nat) (P : List Int) (i : Nat) : Prop :=
  (PB < w.heap.size ∧ ∀ o, w.frozen? ⟨PB, o, none⟩ = false) ∧ ∀ i', i' < P.length → w.cell? ⟨PB, i', none⟩ = some (.float .f64 (if i' < i then pF (P.getD i' 0) else 0))

theorem PfTo.step {w : World} {PB : Nat} {P : List Int} {i : Nat} {x : Nat} (h : PfTo w PB P i) (hi : i < P.length) (hx : x = pF (P.getD i 0)) : PfTo (w.setCell ⟨PB, i, none⟩ (.float .f64 x)) PB P (i + 1) := by
  subst hx
  obtain ⟨⟨h1, h2⟩, h3⟩ := h
  refine ⟨⟨by simpa [World.setCell] using h1, fun o => by simpa using h2 o⟩, fun i' hi' => ?_⟩
  by_cases e : i' = i
  · subst e
    rw [set_same (h3 i' hi'), if_pos (by omega)]
  · rw [set_other (by omega), h3 i' hi']
    by_cases hl : i' < i
    · rw [if_pos hl, if_pos (by omega)]
    · rw [if_neg hl, if_neg (by omega)]

theorem PfTo.done {w : World} {PB : Nat} {P : List Int} (h : PfTo w PB P P.length) (hP : ∀ i, i < P.length → Ok16 (P.getD i 0)) : PfAt w PB P :=
  ⟨h.1.1, fun i hi => ⟨by rw [h.2 i hi, if_pos hi], hP i hi⟩⟩

/-! ### The bundle -/
def bL (I : List (Nat × Int)) (n : Nat) : List (Nat × Int) := if n = 0 then [] else I.map fun p => (p.1 % n, p.2)
def bc (L : List (Nat × Int)) : List Value := L.flatMap fun p => [.int .i64 (p.1 : Nat), .int .i64 p.2]

theorem bc_at (L : List (Nat × Int)) : ∀ k, k < L.length → (bc L)[k * 2]? = some (.int .i64 ((L.getD k (0, 0)).1 : Nat)) ∧ (bc L)[k * 2 + 1]? = some (.int .i64 (L.getD k (0, 0)).2) := by
  induction L with
  | nil => intro k hk; exact absurd hk (by simp)
  | cons p L ih =>
    intro k hk
    match k with
    | 0 => exact ⟨rfl, rfl⟩
    | k + 1 =>
      have := ih k (by simpa using hk)
      rw [show bc (p :: L) = .int .i64 (p.1 : Nat) :: .int .i64 p.2 :: bc L from rfl, show (k + 1) * 2 = k * 2 + 1 + 1 from by omega, List.getElem?_cons_succ, List.getElem?_cons_succ, List.getElem?_cons_succ, List.getElem?_cons_succ]
      exact this

theorem bL_len (I : List (Nat × Int)) (n : Nat) (hn : n ≠ 0) : (bL I n).length = I.length := by simp [bL, hn]
theorem bL_le (I : List (Nat × Int)) (n : Nat) : (bL I n).length ≤ I.length := by
  unfold bL
  split
  · simp
  · simp
theorem bL_at (I : List (Nat × Int)) (n k : Nat) (hn : n ≠ 0) (hk : k < I.length) : (bL I n).getD k (0, 0) = ((I.getD k (0, 0)).1 % n, (I.getD k (0, 0)).2) := by
  unfold bL
  rw [if_neg hn]
  exact getD_map I _ (0, 0) (0, 0) k hk
theorem bc_next (L : List (Nat × Int)) (k : Nat) (h : k < L.length) : bc (L.take (k + 1)) = bc (L.take k) ++ [.int .i64 ((L.getD k (0, 0)).1 : Nat), .int .i64 (L.getD k (0, 0)).2] := by
  unfold bc
  rw [take_next L (0, 0) k h, List.flatMap_append]
  rfl

theorem own_below {base : Nat} {e : TypeId} {size : Nat} {v : Value} {n : Nat} {xs : List Value} {w w' : World} (h : w.ownsRow base e size v n xs) (hb : Below w.heap.size w w') : w'.ownsRow base e size v n xs := by
  refine ⟨h.1, ?_⟩
  rcases h.2 with h' | ⟨g, cap, cur, h1, h2, h3, h4⟩
  · exact .inl h'
  · have hlt : g < w.heap.size := (Array.getElem?_eq_some_iff.1 h3).1
    exact .inr ⟨g, cap, cur, h1, h2, by rw [hb.block g hlt]; exact h3, h4⟩

theorem bun_of_own {w : World} {base : Nat} {v : Value} {I : List (Nat × Int)} {n m : Nat} (hn : n ≠ 0) (hm : m = I.length) (h : w.ownsRow base 95 2 v m (bc (bL I n))) (hI : ∀ k, k < I.length → Ok16 (I.getD k (0, 0)).2) :
    ∃ a c, v = .slice a m c ∧ BunAt w a (bL I n) n ∧ ∀ BB, a = some ⟨BB, 0, none⟩ → base ≤ BB ∧ BB < w.heap.size := by
  rcases h.2 with ⟨rfl, rfl⟩ | ⟨g, cap, cur, rfl, hb, hg, _⟩
  · refine ⟨none, 0, rfl, fun k hk => ?_, fun BB h => by cases h⟩
    rw [bL_len I n hn, ← hm] at hk
    exact absurd hk (by omega)
  · have hlt : g < w.heap.size := (Array.getElem?_eq_some_iff.1 hg).1
    refine ⟨some ⟨g, 0, none⟩, cap, rfl, fun k hk => ?_, fun BB h => by injection h with h; injection h with h; omega⟩
    have hk' := hk
    rw [bL_len I n hn] at hk'
    obtain ⟨b1, b2⟩ := bc_at (bL I n) k hk
    refine ⟨g, rfl, hlt, ?_, ?_, ?_, ?_⟩
    · rw [h.cellAt (k * 2) (by omega)]; exact b1
    · rw [h.cellAt (k * 2 + 1) (by omega)]; exact b2
    · rw [bL_at I n k hn hk']; exact Nat.mod_lt _ (by omega)
    · rw [bL_at I n k hn hk']; exact hI k hk'

/-! ### What is built -/
def Lk (I : List (Nat × Int)) (n k : Nat) : List (Nat × Int) := if k = 0 then [] else bL I n
def Built (w w' : World) (P : List Int) (I : List (Nat × Int)) (PB OB : Nat) : Prop :=
  Below w.heap.size w w' ∧ PfAt w' PB P ∧ OB < w'.heap.size ∧ ∀ k, k < 2 → ∃ a c, w'.cell? ⟨OB, k * 10 + 2, none⟩ = some (.slice a (Lk I P.length k).length c) ∧ BunAt w' a (Lk I P.length k) P.length ∧ ∀ BB, a = some ⟨BB, 0, none⟩ → BB < w'.heap.size

def BuildPost (w w' : World) (P : List Int) (I : List (Nat × Int)) (e : Ending) : Prop :=
  ∃ PB OB, e = .returned (.tuple #[.slice (some ⟨PB, 0, none⟩) P.length P.length, .slice (some ⟨OB, 0, none⟩) 2 2]) ∧ Built w w' P I PB OB

end Go.Proofs.Ybulkluw
