/-
  Seat b0617aF. LawS0617AObjectPath (3): what its building loop keeps: worlds and lists alone, no walk.
-/
import Derived.Test.YbulkltgFmtExpect
namespace Go.Proofs.YbulkltgFmt
open Go.RowKit

theorem info25 : (Ybaf.prog.info? 25).map (fun i => (i.zero, i.size, i.bytes)) = some (some (.pointer none), 1, 8) := by kernel_rfl

theorem BytesAt.mono {B B' : Nat} {w : World} {a : Option Addr} {c : Nat} {k : List UInt8} (h : BytesAt B w a c k) (hB : B ≤ B') : BytesAt B' w a c k :=
  ⟨h.1, fun ad ha j x hx => ⟨Nat.lt_of_lt_of_le (h.2 ad ha j x hx).1 hB, (h.2 ad ha j x hx).2⟩⟩

/-- A row of bytes of the call's own, as a slice of bytes. -/
theorem BytesAt.of_own {B : Nat} {w : World} {a : Option Addr} {c : Nat} {q : List UInt8} (h : w.ownsRow B 5 1 (.slice a q.length c) q.length (Lib.byteCells q)) : BytesAt w.heap.size w a c q := by
  rcases h.2 with ⟨hv, h0⟩ | ⟨g, cap, cur, hv, hb, hg, r⟩
  · have : q = [] := List.length_eq_zero_iff.1 h0
    subst this
    injection hv with e1 e2 e3
    subst e1
    subst e3
    exact ⟨fun _ => ⟨rfl, rfl⟩, fun ad hh => by cases hh⟩
  · injection hv with e1 e2 e3
    subst e1
    subst e3
    refine ⟨fun hh => (by cases hh), fun ad hh j x hx => ?_⟩
    cases hh
    exact ⟨(Array.getElem?_eq_some_iff.1 hg).1, h.cells (g := g) rfl j _ (by simp [Lib.byteCells, hx])⟩

/-- As 'Cont', said of whole blocks: so that it stays behind whatever grows other blocks. -/
def ContH (B : Nat) (w : World) (p : Value) (q : List UInt8) : Prop :=
  ∃ pb kb a c x1 x2 x3, p = .pointer (some ⟨pb, 0, none⟩) ∧ w.heap[pb]? = some (.cells #[.bool true, .slice (some ⟨kb, 0, none⟩) 2 2, x1, x2] 27 (0, 0)) ∧
    w.heap[kb]? = some (.cells #[x3, .slice a q.length c] 23 (0, 0)) ∧ w.ownsRow B 5 1 (.slice a q.length c) q.length (Lib.byteCells q)

theorem own_ne {w : World} {B : Nat} {v : Value} {n : Nat} {xs : List Value} {O : Nat} {cs : Array Value} (h : w.ownsRow B 5 1 v n xs) (hO : w.heap[O]? = some (.cells cs 25 (0, 0))) : v.ownBlock ≠ some O :=
  Lib.ownBlock_ne h hO (by decide)

theorem ContH.grown {B : Nat} {w w' : World} {p : Value} {q : List UInt8} {O : Nat} {cs : Array Value} (h : ContH B w p q) (hO : w.heap[O]? = some (.cells cs 25 (0, 0))) (hg : w.grownBy w' (some O)) : ContH B w' p q := by
  obtain ⟨pb, kb, a, c, x1, x2, x3, e, h1, h2, h3⟩ := h
  refine ⟨pb, kb, a, c, x1, x2, x3, e, ?_, ?_, h3.kept hg (Or.inr (own_ne h3 hO))⟩
  · rw [hg.block pb (Array.getElem?_eq_some_iff.1 h1).1 (fun e => by
      simp only [Option.some.injEq] at e
      subst e
      rw [h1] at hO
      simp at hO)]
    exact h1
  · rw [hg.block kb (Array.getElem?_eq_some_iff.1 h2).1 (fun e => by
      simp only [Option.some.injEq] at e
      subst e
      rw [h2] at hO
      simp at hO)]
    exact h2

theorem ContH.grow0 {B : Nat} {w w' : World} {p : Value} {q : List UInt8} (h : ContH B w p q) (hg : w.grownBy w' none) : ContH B w' p q := by
  obtain ⟨pb, kb, a, c, x1, x2, x3, e, h1, h2, h3⟩ := h
  refine ⟨pb, kb, a, c, x1, x2, x3, e, ?_, ?_, h3.kept hg (by cases (Value.slice a q.length c).ownBlock <;> simp)⟩
  · rw [hg.block pb (Array.getElem?_eq_some_iff.1 h1).1 (by simp)]; exact h1
  · rw [hg.block kb (Array.getElem?_eq_some_iff.1 h2).1 (by simp)]; exact h2

theorem ContH.cont {B : Nat} {w : World} {p : Value} {q : List UInt8} (h : ContH B w p q) : Cont w.heap.size w p q := by
  obtain ⟨pb, kb, a, c, x1, x2, x3, e, h1, h2, h3⟩ := h
  exact ⟨pb, kb, a, c, e, (Array.getElem?_eq_some_iff.1 h1).1, (Array.getElem?_eq_some_iff.1 h2).1, by rw [Lib.cell_of_heap h1]; rfl, by rw [Lib.cell_of_heap h1]; rfl, by rw [Lib.cell_of_heap h2]; rfl, .of_own h3⟩

/-- The first k containers are built. -/
def Built (B O cap : Nat) (lv : List (List UInt8)) (k : Nat) (ps : List Value) (w : World) : Prop :=
  w.ownsRow B 25 1 (.slice (some ⟨O, 0, none⟩) k cap) k ps ∧ ∀ j, j < k → ∃ p, ps[j]? = some p ∧ ContH B w p (lv.getD j [])

theorem Built.block {B O cap : Nat} {lv : List (List UInt8)} {k : Nat} {ps : List Value} {w : World} (h : Built B O cap lv k ps w) : ∃ cs, w.heap[O]? = some (.cells cs 25 (0, 0)) := by
  rcases h.1.2 with ⟨hv, _⟩ | ⟨g, cap', cur, hv, hb, hg, r⟩
  · cases hv
  · cases hv
    exact ⟨cur, hg⟩

theorem Built.grow0 {B O cap : Nat} {lv : List (List UInt8)} {k : Nat} {ps : List Value} {w w' : World} (h : Built B O cap lv k ps w) (hg : w.grownBy w' none) : Built B O cap lv k ps w' :=
  ⟨h.1.kept hg (Or.inr (by simp [Value.ownBlock])), fun j hj => by
    obtain ⟨p, hp, hc⟩ := h.2 j hj
    exact ⟨p, hp, hc.grow0 hg⟩⟩

theorem Built.alloc {B O cap : Nat} {lv : List (List UInt8)} {k : Nat} {ps : List Value} {w : World} (h : Built B O cap lv k ps w) (o : Obj) : Built B O cap lv k ps (w.alloc o) :=
  h.grow0 (World.grownBy_alloc w o none)

/-- One container more, appended: w1 holds the copied key; behind it four new blocks; then the append. -/
theorem Built.step {B O cap : Nat} {lv : List (List UInt8)} {k : Nat} {ps : List Value} {w1 w2 : World} {a : Option Addr} {c : Nat} {q : List UInt8} {zz o4 : Obj} {x1 x2 x3 : Value} (h : Built B O cap lv k ps w1)
    (hown : w1.ownsRow B 5 1 (.slice a q.length c) q.length (Lib.byteCells q)) (hq : lv.getD k [] = q)
    (hown2 : w2.ownsRow B 25 1 (.slice (some ⟨O, 0, none⟩) (k + 1) cap) (k + 1) (ps ++ [.pointer (some ⟨w1.heap.size + 1 + 1, 0, none⟩)]))
    (hg : ((((w1.alloc zz).alloc (.cells #[x3, .slice a q.length c] 23)).alloc (.cells #[.bool true, .slice (some ⟨w1.heap.size + 1, 0, none⟩) 2 2, x1, x2] 27)).alloc o4).grownBy w2 (some O)) :
    Built B O cap lv (k + 1) (ps ++ [.pointer (some ⟨w1.heap.size + 1 + 1, 0, none⟩)]) w2 := by
  have h4 := (((h.alloc zz).alloc (.cells #[x3, .slice a q.length c] 23)).alloc (.cells #[.bool true, .slice (some ⟨w1.heap.size + 1, 0, none⟩) 2 2, x1, x2] 27)).alloc o4
  obtain ⟨cs, hO⟩ := h4.block
  refine ⟨hown2, fun j hj => ?_⟩
  have hpl : ps.length = k := by have := h.1.1; simpa using this
  by_cases hjk : j < k
  · obtain ⟨p, hp, hc⟩ := h4.2 j hjk
    exact ⟨p, by rw [List.getElem?_append_left (by omega)]; exact hp, hc.grown hO hg⟩
  · have e : j = k := by omega
    subst e
    refine ⟨.pointer (some ⟨w1.heap.size + 1 + 1, 0, none⟩), by rw [List.getElem?_append_right (by omega)]; simp [hpl], ?_⟩
    rw [hq]
    refine ContH.grown ⟨w1.heap.size + 1 + 1, w1.heap.size + 1, a, c, x1, x2, x3, rfl, ?_, ?_, (((hown.alloc zz).alloc _).alloc _).alloc _⟩ hO hg
    · show ((((w1.heap.push _).push _).push _).push _)[w1.heap.size + 1 + 1]? = _
      simp only [Array.getElem?_push, Array.size_push]
      rw [if_neg (by omega), if_pos trivial]
    · show ((((w1.heap.push _).push _).push _).push _)[w1.heap.size + 1]? = _
      simp only [Array.getElem?_push, Array.size_push]
      rw [if_neg (by omega), if_neg (by omega), if_pos trivial]

/-- What keyPath is told. -/
theorem Built.opens {B O cap : Nat} {lv : List (List UInt8)} {ps : List Value} {v : Value} {w w' : World} {k : Nat} (h : Built B O cap lv k ps w) (hg : w.grownBy w' (some O))
    (hown : w'.ownsRow B 25 1 (.slice (some ⟨O, 0, none⟩) (k + 1) cap) (k + 1) (ps ++ [v])) : ∀ i, i < k → ∃ p, w'.cell? ⟨O, i, none⟩ = some p ∧ ContH B w' p (lv.getD i []) := by
  intro i hi
  have hpl : ps.length = k := by have := h.1.1; simpa using this
  obtain ⟨cs, hO⟩ := h.block
  obtain ⟨p, hp, hc⟩ := h.2 i hi
  refine ⟨p, ?_, hc.grown hO hg⟩
  have := hown.cells (g := O) rfl i p (by rw [List.getElem?_append_left (by omega)]; exact hp)
  have e : (⟨O, 0, none⟩ : Addr).add i = ⟨O, i, none⟩ := by unfold Addr.add; split <;> simp_all
  rw [e] at this
  exact this

end Go.Proofs.YbulkltgFmt
