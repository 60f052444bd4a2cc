/-
  Seat b0620a. zzs0620bbuild (8): what its three loops keep: worlds and lists alone, no walk.
-/
import Derived.Test.YbulkluwMost
import Derived.Test.YbulkluwOk
namespace Go.Proofs.Ybulkluw
open Go.RowKit

theorem info101 : (Yba.prog.info? 101).map (fun i => (i.zero, i.size, i.bytes)) = some (Yba.t101.zero, 43, 416) := by kernel_rfl
theorem info46 : (Yba.prog.info? 46).map (fun i => (i.zero, i.size, i.bytes)) = some (some (.agg (optCells (.slice none 0 0)).toArray), 10, 72) := by kernel_rfl
theorem info95 : (Yba.prog.info? 95).map (fun i => (i.zero, i.size, i.bytes)) = some (some (.agg #[.int .i64 0, .int .i64 0]), 2, 16) := by kernel_rfl

theorem set_other {w : World} {X o b p : Nat} {v : Value} (h : ¬ (X = b ∧ o = p)) : (w.setCell ⟨X, o, none⟩ v).cell? ⟨b, p, none⟩ = w.cell? ⟨b, p, none⟩ :=
  World.cell?_setCell_other w _ _ _ (by simpa using h)
theorem set_same {w : World} {X o : Nat} {v u : Value} (h : w.cell? ⟨X, o, none⟩ = some u) : (w.setCell ⟨X, o, none⟩ v).cell? ⟨X, o, none⟩ = some v :=
  World.cell?_setCell_same w _ _ h

theorem made_at (z : Array Value) (n size i c : Nat) (hz : z.size = size) (hi : i < n) (hc : c < size) : (madeCells z (n * size)).toList[i * size + c]? = some (z.toList.getD c undef) := by
  have h1 : i * size + c < n * size := by
    have : (i + 1) * size ≤ n * size := Nat.mul_le_mul_right size hi
    rw [Nat.add_mul] at this
    omega
  have h2 : (i * size + c) % size = c := by
    rw [Nat.add_comm, Nat.add_mul_mod_self_right]
    exact Nat.mod_eq_of_lt hc
  have h3 : c < z.size := by omega
  simp [madeCells, hz, h1, h2, getElem!_pos z c h3, getElem?_pos z c h3]

/-- A row that 'make' has laid at block X. -/
theorem make_facts {w w' : World} {base : Nat} {e : TypeId} {size n : Nat} {z : Value} (hown : w'.ownsRow base e size (.slice (some ⟨w.heap.size, 0, none⟩) n n) n (madeCells z.cells (n * size)).toList) (hg : w.grownBy w' none) (hz : z.cells.size = size) :
    w.heap.size < w'.heap.size ∧ Below w.heap.size w w' ∧ (∀ i, i < n → ∀ c, c < size → w'.cell? ⟨w.heap.size, i * size + c, none⟩ = some (z.cells.toList.getD c undef)) ∧ ∀ o, w'.frozen? ⟨w.heap.size, o, none⟩ = false := by
  refine ⟨?_, (Below.refl _ _).grown hg (Nat.le_refl _) (fun k hk => by cases hk), fun i hi c hc => ?_, fun o => hown.frozenAt o⟩
  · rcases hown.2 with ⟨h', _⟩ | ⟨g', cap', cur, h', _, hgg, _⟩
    · cases h'
    · injection h' with e1 _ _
      injection e1 with e1
      injection e1 with e1 _ _
      subst e1
      exact (Array.getElem?_eq_some_iff.1 hgg).1
  · have h1 : i * size + c < n * size := by
      have : (i + 1) * size ≤ n * size := Nat.mul_le_mul_right size hi
      rw [Nat.add_mul] at this
      omega
    rw [hown.cellAt _ h1, made_at z.cells n size i c hz hi hc]

/-! ### Bundles, options, kinds: they stay behind what is written elsewhere -/
theorem BundAt.below {N : Nat} {w w' : World} {BB : Nat} {l : List Int} (h : BundAt w BB l) (hb : Below N w w') (hB : BB < N) : BundAt w' BB l := fun k hk => by
  rw [hb.cell (p := ⟨BB, k * 2, none⟩) hB, hb.cell (p := ⟨BB, k * 2 + 1, none⟩) hB]
  exact h k hk

theorem BundAt.set {w : World} {BB X o : Nat} {v : Value} {l : List Int} (h : BundAt w BB l) (hX : X ≠ BB) : BundAt (w.setCell ⟨X, o, none⟩ v) BB l := fun k hk => by
  rw [set_other (by omega), set_other (by omega)]
  exact h k hk

/-- The first j options of block OB are built; whatever the third cell, the other nine are the zero option's. All lies above block lo. -/
def OptsTo (lo : Nat) (w : World) (OB : Nat) (row : List (List Int)) (j : Nat) : Prop :=
  (lo < OB ∧ OB < w.heap.size ∧ ∀ o, w.frozen? ⟨OB, o, none⟩ = false) ∧ ∀ j', j' < row.length → ∃ v, (∀ c, c < 10 → w.cell? ⟨OB, j' * 10 + c, none⟩ = some ((optCells v).getD c undef)) ∧
    (j' < j → ∃ BB, v = .slice (some ⟨BB, 0, none⟩) (row.getD j' []).length (row.getD j' []).length ∧ lo < BB ∧ BB ≠ OB ∧ BB < w.heap.size ∧ BundAt w BB (row.getD j' []))

theorem OptsTo.below {lo N : Nat} {w w' : World} {OB : Nat} {row : List (List Int)} {j : Nat} (h : OptsTo lo w OB row j) (hb : Below N w w') (hN : w.heap.size ≤ N) : OptsTo lo w' OB row j := by
  obtain ⟨⟨h1, h2, h3⟩, h4⟩ := h
  have hs := hb.size
  refine ⟨⟨h1, by omega, fun o => by rw [hb.frozen (p := ⟨OB, o, none⟩) (by simp; omega)]; exact h3 o⟩, fun j' hj' => ?_⟩
  obtain ⟨v, hv, hB⟩ := h4 j' hj'
  refine ⟨v, fun c hc => by rw [hb.cell (p := ⟨OB, j' * 10 + c, none⟩) (by simp; omega)]; exact hv c hc, fun hj => ?_⟩
  obtain ⟨BB, e, b1, b2, b3, b4⟩ := hB hj
  exact ⟨BB, e, b1, b2, by omega, b4.below hb (by omega)⟩

theorem OptsTo.set {lo : Nat} {w : World} {OB X o : Nat} {v : Value} {row : List (List Int)} {j : Nat} (h : OptsTo lo w OB row j) (hX : X ≤ lo) : OptsTo lo (w.setCell ⟨X, o, none⟩ v) OB row j := by
  obtain ⟨⟨h1, h2, h3⟩, h4⟩ := h
  refine ⟨⟨h1, by simpa [World.setCell] using h2, fun o => by simpa using h3 o⟩, fun j' hj' => ?_⟩
  obtain ⟨v', hv, hB⟩ := h4 j' hj'
  refine ⟨v', fun c hc => by rw [set_other (by omega)]; exact hv c hc, fun hj => ?_⟩
  obtain ⟨BB, e, b1, b2, b3, b4⟩ := hB hj
  exact ⟨BB, e, b1, b2, by simpa [World.setCell] using b3, b4.set (by omega)⟩

/-- One option more: its bundle's slice is stored. -/
theorem OptsTo.step {lo : Nat} {w : World} {OB BB : Nat} {row : List (List Int)} {j : Nat} {ln : Nat} (h : OptsTo lo w OB row j) (hj : j < row.length) (hl : ln = (row.getD j []).length) (h1 : lo < BB) (h2 : BB ≠ OB) (h3 : BB < w.heap.size) (hb : BundAt w BB (row.getD j [])) :
    OptsTo lo (w.setCell ⟨OB, j * 10 + 2, none⟩ (.slice (some ⟨BB, 0, none⟩) ln ln)) OB row (j + 1) := by
  subst hl
  obtain ⟨⟨g1, g2, g3⟩, g4⟩ := h
  refine ⟨⟨g1, by simpa [World.setCell] using g2, fun o => by simpa using g3 o⟩, fun j' hj' => ?_⟩
  obtain ⟨v', hv, hB⟩ := g4 j' hj'
  by_cases e : j' = j
  · subst e
    refine ⟨.slice (some ⟨BB, 0, none⟩) (row.getD j' []).length (row.getD j' []).length, fun c hc => ?_, fun _ => ⟨BB, rfl, h1, h2, by simpa [World.setCell] using h3, hb.set (by omega)⟩⟩
    by_cases e2 : c = 2
    · subst e2
      rw [set_same (hv 2 (by omega))]
      rfl
    · rw [set_other (by omega), hv c hc]
      have : (optCells v').getD c undef = (optCells (.slice (some ⟨BB, 0, none⟩) (row.getD j' []).length (row.getD j' []).length)).getD c undef := by
        match c, hc, e2 with
        | 0, _, _ => rfl
        | 1, _, _ => rfl
        | 3, _, _ => rfl
        | 4, _, _ => rfl
        | 5, _, _ => rfl
        | 6, _, _ => rfl
        | 7, _, _ => rfl
        | 8, _, _ => rfl
        | 9, _, _ => rfl
      rw [this]
  · refine ⟨v', fun c hc => ?_, fun hlt => ?_⟩
    · rw [set_other (by omega)]
      exact hv c hc
    · obtain ⟨BB', e', b1, b2, b3, b4⟩ := hB (by omega)
      exact ⟨BB', e', b1, b2, by simpa [World.setCell] using b3, b4.set (by omega)⟩

/-- The first i kinds of block KB are built. -/
def KindsTo (w : World) (KB n : Nat) (Q : List (List (List Int))) (i : Nat) : Prop :=
  (KB < w.heap.size ∧ ∀ o, w.frozen? ⟨KB, o, none⟩ = false) ∧ (∀ i', i' < n → ∃ v, w.cell? ⟨KB, i' * 43 + 15, none⟩ = some v) ∧
    ∀ i', i' < i → ∃ OB, w.cell? ⟨KB, i' * 43 + 15, none⟩ = some (.slice (some ⟨OB, 0, none⟩) (Q.getD i' []).length (Q.getD i' []).length) ∧ OptsTo KB w OB (Q.getD i' []) (Q.getD i' []).length

theorem KindsTo.below {N : Nat} {w w' : World} {KB n : Nat} {Q : List (List (List Int))} {i : Nat} (h : KindsTo w KB n Q i) (hb : Below N w w') (hN : w.heap.size ≤ N) : KindsTo w' KB n Q i := by
  obtain ⟨⟨h1, h2⟩, h3, h4⟩ := h
  have hs := hb.size
  refine ⟨⟨by omega, fun o => by rw [hb.frozen (p := ⟨KB, o, none⟩) (by simp; omega)]; exact h2 o⟩, fun i' hi' => ?_, fun i' hi' => ?_⟩
  · rw [hb.cell (p := ⟨KB, i' * 43 + 15, none⟩) (by simp; omega)]
    exact h3 i' hi'
  · obtain ⟨OB, e, ho⟩ := h4 i' hi'
    exact ⟨OB, by rw [hb.cell (p := ⟨KB, i' * 43 + 15, none⟩) (by simp; omega)]; exact e, ho.below hb hN⟩

theorem KindsTo.step {w : World} {KB n OB : Nat} {Q : List (List (List Int))} {i m : Nat} (h : KindsTo w KB n Q i) (hi : i < n) (hm : m = (Q.getD i []).length) (ho : OptsTo KB w OB (Q.getD i []) (Q.getD i []).length) :
    KindsTo (w.setCell ⟨KB, i * 43 + 15, none⟩ (.slice (some ⟨OB, 0, none⟩) m m)) KB n Q (i + 1) := by
  subst hm
  obtain ⟨⟨h1, h2⟩, h3, h4⟩ := h
  have hsame : ∀ i', i' < n → i' = i → (w.setCell ⟨KB, i * 43 + 15, none⟩ (.slice (some ⟨OB, 0, none⟩) (Q.getD i []).length (Q.getD i []).length)).cell? ⟨KB, i' * 43 + 15, none⟩ = some (.slice (some ⟨OB, 0, none⟩) (Q.getD i []).length (Q.getD i []).length) := by
    intro i' hi' e
    subst e
    obtain ⟨v, hv⟩ := h3 i' hi'
    exact set_same hv
  refine ⟨⟨by simpa [World.setCell] using h1, fun o => by simpa using h2 o⟩, fun i' hi' => ?_, fun i' hi' => ?_⟩
  · by_cases e : i' = i
    · exact ⟨_, hsame i' hi' e⟩
    · rw [set_other (by omega)]
      exact h3 i' hi'
  · by_cases e : i' = i
    · refine ⟨OB, ?_, ?_⟩
      · rw [hsame i' (by omega) e, e]
      · rw [e]; exact ho.set (Nat.le_refl _)
    · obtain ⟨OB', e', ho'⟩ := h4 i' (by omega)
      exact ⟨OB', by rw [set_other (by omega)]; exact e', ho'.set (Nat.le_refl _)⟩

/-- At the end they are the kinds that mostMultiple reads. -/
theorem KindsTo.kinds {w : World} {KB n : Nat} {Q : List (List (List Int))} (h : KindsTo w KB n Q Q.length) : KindsAt w KB Q := fun i hi => by
  obtain ⟨OB, e, ⟨⟨_, o2, _⟩, o4⟩⟩ := h.2.2 i hi
  refine ⟨OB, o2, e, fun j hj => ?_⟩
  obtain ⟨v, hv, hB⟩ := o4 j hj
  obtain ⟨BB, e', _, _, b3, b4⟩ := hB hj
  subst e'
  exact ⟨BB, b3, hv, b4⟩

/-- A bundle's cells when k of its items are laid. -/
def BundTo (w : World) (BB : Nat) (l : List Int) (k : Nat) : Prop :=
  (BB < w.heap.size ∧ ∀ o, w.frozen? ⟨BB, o, none⟩ = false) ∧ ∀ k', k' < l.length → w.cell? ⟨BB, k' * 2, none⟩ = some (.int .i64 0) ∧ w.cell? ⟨BB, k' * 2 + 1, none⟩ = some (.int .i64 (if k' < k then l.getD k' 0 else 0))

theorem BundTo.below {N : Nat} {w w' : World} {BB : Nat} {l : List Int} {k : Nat} (h : BundTo w BB l k) (hb : Below N w w') (hB : BB < N) : BundTo w' BB l k := by
  obtain ⟨⟨h1, h2⟩, h3⟩ := h
  have hs := hb.size
  refine ⟨⟨by omega, fun o => by rw [hb.frozen (p := ⟨BB, o, none⟩) hB]; exact h2 o⟩, fun k' hk' => ?_⟩
  rw [hb.cell (p := ⟨BB, k' * 2, none⟩) hB, hb.cell (p := ⟨BB, k' * 2 + 1, none⟩) hB]
  exact h3 k' hk'

theorem BundTo.step {w : World} {BB : Nat} {l : List Int} {k : Nat} {q : Int} (h : BundTo w BB l k) (hk : k < l.length) (hq : q = l.getD k 0) :
    BundTo ((w.setCell ⟨BB, k * 2, none⟩ (.int .i64 0)).setCell ⟨BB, k * 2 + 1, none⟩ (.int .i64 q)) BB l (k + 1) := by
  subst hq
  obtain ⟨⟨h1, h2⟩, h3⟩ := h
  refine ⟨⟨by simpa [World.setCell] using h1, fun o => by simpa using h2 o⟩, fun k' hk' => ?_⟩
  obtain ⟨c0, c1⟩ := h3 k' hk'
  by_cases e : k' = k
  · subst e
    refine ⟨?_, ?_⟩
    · rw [set_other (by omega), set_same c0]
    · rw [if_pos (by omega)]
      refine set_same (u := .int .i64 (if k' < k' then l.getD k' 0 else 0)) ?_
      rw [set_other (by omega)]
      exact c1
  · refine ⟨?_, ?_⟩
    · rw [set_other (by omega), set_other (by omega)]
      exact c0
    · rw [set_other (by omega), set_other (by omega), c1]
      by_cases h4 : k' < k
      · rw [if_pos h4, if_pos (by omega)]
      · rw [if_neg h4, if_neg (by omega)]

theorem BundTo.bund {w : World} {BB : Nat} {l : List Int} (h : BundTo w BB l l.length) : BundAt w BB l := fun k hk => by
  have := h.2 k hk
  rwa [if_pos hk] at this

end Go.Proofs.Ybulkluw
