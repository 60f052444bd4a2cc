/-
  Seat b0617aF. writeKey (9) and keyPath (6), by their contracts.
-/
import Derived.Test.YbulkltgFmtBuilder
import Derived.Deep.RegionHeld3
import Derived.Deep.OwnRows
namespace Go.Proofs.YbulkltgFmt
open Go.RowKit

/-- One more key on a path. -/
def joinStep (l k : List UInt8) : List UInt8 := (if l = [] then l else l ++ [46]) ++ k

/-- A slice of bytes (address a, capacity c) reads as k in w, below block B. -/
def BytesAt (B : Nat) (w : World) (a : Option Addr) (c : Nat) (k : List UInt8) : Prop :=
  (a = none → k = [] ∧ c = 0) ∧ ∀ ad, a = some ad → ∀ j x, k[j]? = some x → ad.block < B ∧ w.cell? (ad.add j) = some (.int .u8 x.toNat)

theorem BytesAt.below {B : Nat} {w w' : World} {a : Option Addr} {c : Nat} {k : List UInt8} (h : BytesAt B w a c k) (hb : Below B w w') : BytesAt B w' a c k := by
  refine ⟨h.1, fun ad ha j x hx => ?_⟩
  obtain ⟨h1, h2⟩ := h.2 ad ha j x hx
  exact ⟨h1, by rw [hb.cell (p := ad.add j) (by unfold Addr.add; split <;> exact h1)]; exact h2⟩

set_option maxHeartbeats 400000 in
theorem writeKey_first (B b : Nat) (a : Option Addr) (c : Nat) (k : List UInt8) (w : World) (h : Lib.IsBuilder 42 5 B b (Lib.byteCells []) w) (hk : BytesAt B w a c k)
    (hlen : k.length ≤ 140737488355328) (hBw : B ≤ w.heap.size) :
    Calls Ybaf.prog 9 #[.pointer (some ⟨b, 0, none⟩), .slice a k.length c] w fun e w' => e = .returned (.tuple #[]) ∧ (Lib.IsBuilder 42 5 B b (Lib.byteCells k) w' ∧ Below B w w') := by
  go_enter Ybaf.func9, Ybaf.ntmps9
  go_wp2_with fail
  refine (Bld.len B b (Lib.byteCells []) w h).mono ?_
  rintro e w1 ⟨rfl, rfl⟩
  rw [show (((Lib.byteCells []).length : Nat) : Int) = 0 from rfl]
  go_wp2_with fail
  refine (Bld.write B b [] a c k _ h hk.1 hk.2 (by simpa using hlen) hBw).mono ?_
  rintro e w2 ⟨rfl, h2, hb2⟩
  go_wp2
  go_end0
  exact ⟨rfl, h2, hb2⟩

set_option maxHeartbeats 400000 in
theorem writeKey_more (B b : Nat) (l : List UInt8) (a : Option Addr) (c : Nat) (k : List UInt8) (w : World) (h : Lib.IsBuilder 42 5 B b (Lib.byteCells l) w) (hl : l ≠ []) (hk : BytesAt B w a c k)
    (hlen : l.length + 1 + k.length ≤ 140737488355328) (hBw : B ≤ w.heap.size) :
    Calls Ybaf.prog 9 #[.pointer (some ⟨b, 0, none⟩), .slice a k.length c] w fun e w' => e = .returned (.tuple #[]) ∧ (Lib.IsBuilder 42 5 B b (Lib.byteCells (l ++ [46] ++ k)) w' ∧ Below B w w') := by
  have hpos : (0 : Int) < (l.length : Int) := by
    have := List.length_pos_iff.2 hl
    omega
  go_enter Ybaf.func9, Ybaf.ntmps9
  go_wp2_with fail
  refine (Bld.len B b (Lib.byteCells l) w h).mono ?_
  rintro e w1 ⟨rfl, rfl⟩
  rw [Lib.byteCells_length]
  go_wp2_with fail
  refine (Bld.writeByte B b (Lib.byteCells l) 46 _ h (by rw [Lib.byteCells_length]; omega) hBw).mono ?_
  rintro e w2 ⟨rfl, h2, hb2⟩
  have e46 : Lib.byteCells l ++ [Value.int .u8 46] = Lib.byteCells (l ++ [46]) := by rw [Lib.byteCells_append]; rfl
  rw [e46] at h2
  clear e46
  go_wp2_with fail
  refine (Bld.write B b (l ++ [46]) a c k _ (Or.inr h2) (hk.below hb2).1 (hk.below hb2).2 (by simp; omega) (by have := hb2.size; omega)).mono ?_
  rintro e w3 ⟨rfl, h3, hb3⟩
  go_wp2
  go_end0
  exact ⟨rfl, h3, hb2.trans hb3⟩

theorem writeKey (B b : Nat) (l : List UInt8) (a : Option Addr) (c : Nat) (k : List UInt8) (w : World) (h : Lib.IsBuilder 42 5 B b (Lib.byteCells l) w) (hk : BytesAt B w a c k)
    (hlen : l.length + 1 + k.length ≤ 140737488355328) (hBw : B ≤ w.heap.size) :
    Calls Ybaf.prog 9 #[.pointer (some ⟨b, 0, none⟩), .slice a k.length c] w fun e w' => e = .returned (.tuple #[]) ∧ (Lib.IsBuilder 42 5 B b (Lib.byteCells (joinStep l k)) w' ∧ Below B w w') := by
  by_cases hl : l = []
  · subst hl
    have e : joinStep [] k = k := by simp [joinStep]
    rw [e]
    exact writeKey_first B b a c k w h hk (by simp at hlen; omega) hBw
  · have e : joinStep l k = l ++ [46] ++ k := by simp [joinStep, hl]
    rw [e]
    exact writeKey_more B b l a c k w h hl hk hlen hBw

/-- A pointer to a container of an object whose last key (of two) is k: in w, below block B. -/
def Cont (B : Nat) (w : World) (p : Value) (k : List UInt8) : Prop :=
  ∃ pb kb a c, p = .pointer (some ⟨pb, 0, none⟩) ∧ pb < B ∧ kb < B ∧ w.cell? ⟨pb, 0, none⟩ = some (.bool true) ∧ w.cell? ⟨pb, 1, none⟩ = some (.slice (some ⟨kb, 0, none⟩) 2 2) ∧ w.cell? ⟨kb, 1, none⟩ = some (.slice a k.length c) ∧ BytesAt B w a c k

theorem Cont.below {B : Nat} {w w' : World} {p : Value} {k : List UInt8} (h : Cont B w p k) (hb : Below B w w') : Cont B w' p k := by
  obtain ⟨pb, kb, a, c, e, h1, h2, c1, c2, c3, hk⟩ := h
  refine ⟨pb, kb, a, c, e, h1, h2, ?_, ?_, ?_, hk.below hb⟩
  · rw [hb.cell (p := ⟨pb, 0, none⟩) h1]; exact c1
  · rw [hb.cell (p := ⟨pb, 1, none⟩) h1]; exact c2
  · rw [hb.cell (p := ⟨kb, 1, none⟩) h2]; exact c3

/-- The path of the first k levels. -/
def pathTo (lv : List (List UInt8)) (k : Nat) : List UInt8 := (lv.take k).foldl joinStep []

theorem pathTo_succ (lv : List (List UInt8)) (k : Nat) (h : k < lv.length) : pathTo lv (k + 1) = joinStep (pathTo lv k) (lv.getD k []) := by
  unfold pathTo
  rw [List.take_succ_eq_append_getElem h, List.foldl_append]
  simp [List.getElem?_eq_getElem h]

theorem joinStep_length (l k : List UInt8) : (joinStep l k).length ≤ l.length + 1 + k.length := by
  unfold joinStep
  split <;> simp <;> omega

theorem pathTo_length (lv : List (List UInt8)) (hb : ∀ x ∈ lv, x.length ≤ 1024) (k : Nat) (h : k ≤ lv.length) : (pathTo lv k).length ≤ k * 1025 := by
  induction k with
  | zero => simp [pathTo]
  | succ k ih =>
    rw [pathTo_succ lv k (by omega)]
    have h1 := joinStep_length (pathTo lv k) (lv.getD k [])
    have h2 := ih (by omega)
    have h3 : (lv.getD k []).length ≤ 1024 := by
      rw [List.getD_eq_getElem?_getD, List.getElem?_eq_getElem (show k < lv.length by omega)]
      exact hb _ (List.getElem_mem _)
    omega

set_option maxHeartbeats 1000000 in
theorem keyPath (w : World) (lv : List (List UInt8)) (ob oc : Nat) (ka : Option Addr) (kc : Nat) (key : List UInt8) (hn : lv.length ≤ 256) (hlv : ∀ x ∈ lv, x.length ≤ 1024) (hkey : key.length ≤ 1024)
    (hob : ob < w.heap.size) (hoc : lv.length + 1 ≤ oc) (hopen : ∀ i, i < lv.length → ∃ p, w.cell? ⟨ob, i, none⟩ = some p ∧ Cont w.heap.size w p (lv.getD i [])) (hk : BytesAt w.heap.size w ka kc key) :
    Calls Ybaf.prog 6 #[.slice (some ⟨ob, 0, none⟩) (lv.length + 1) oc, .slice ka key.length kc] w fun e w' => e = .returned (.string ⟨(joinStep (pathTo lv lv.length) key).toArray⟩) ∧ Below w.heap.size w w' := by
  have HO : Hid (∀ i, i < lv.length → ∃ p, w.cell? ⟨ob, i, none⟩ = some p ∧ Cont w.heap.size w p (lv.getD i [])) := hopen
  have HK : Hid (BytesAt w.heap.size w ka kc key) := hk
  have HLV : Hid (∀ x ∈ lv, x.length ≤ 1024) := hlv
  clear hopen hk hlv
  obtain ⟨n, HN⟩ : ∃ n, Hid (n = lv.length) := ⟨_, rfl⟩
  have hn' : n ≤ 256 := by rw [HN.out]; exact hn
  have hoc' : n + 1 ≤ oc := by rw [HN.out]; exact hoc
  rw [← HN.out]
  clear hn hoc
  go_enter Ybaf.func6, Ybaf.ntmps6
  go_wp2
  go_loopw [7, 14] (fun _ i wr => ∃ k : Nat, k ≤ n ∧ i = .int .i64 k ∧ Hid (Lib.IsBuilder 42 5 w.heap.size w.heap.size (Lib.byteCells (pathTo lv k)) wr) ∧ Hid (Below w.heap.size w wr)) (fun _ i _ => n - (intOf i).toNat)
  case atStart => exact ⟨0, Nat.zero_le _, rfl, Lib.fresh_isBuilder 42 5 w, (Below.refl _ _).alloc (Nat.le_refl _) _⟩
  case round =>
    obtain ⟨k, hkn, rfl, hB, hbel⟩ := hrel
    have hlen := pathTo_length lv HLV.out k (by rw [← HN.out]; exact hkn)
    by_cases hlt : k < n
    · obtain ⟨p, hp, hcont⟩ := HO.out k (by rw [← HN.out]; exact hlt)
      obtain ⟨pb, kb, a, c, rfl, h1, h2, c1, c2, c3, hk⟩ := hcont.below hbel.out
      have hp' : wr.cell? ⟨ob, k, none⟩ = some (.pointer (some ⟨pb, 0, none⟩)) := by rw [hbel.out.cell (p := ⟨ob, k, none⟩) hob]; exact hp
      have hkl : (lv.getD k []).length ≤ 1024 := by
        rw [List.getD_eq_getElem?_getD, List.getElem?_eq_getElem (show k < lv.length by rw [← HN.out]; exact hlt)]
        exact HLV.out _ (List.getElem_mem _)
      have hsucc : Hid (pathTo lv (k + 1) = joinStep (pathTo lv k) (lv.getD k [])) := pathTo_succ lv k (by rw [← HN.out]; exact hlt)
      generalize lv.getD k [] = q at *
      have HQ : Hid (BytesAt w.heap.size wr a c q) := hk
      clear hcont hp hk
      have hw1 : IntKind.i64.wrap (2 - 1) = 1 := by decide
      have hw2 : IntKind.i64.wrap 1 = 1 := by decide
      go_wp2
      go_region_held3 (fun w' => w'.cell? ⟨pb, 1, none⟩ = some (.slice (some ⟨kb, 0, none⟩) 2 2) ∧ w'.cell? ⟨kb, 1, none⟩ = some (.slice a q.length c)) (first | go_keep | (refine ⟨?_, ?_⟩ <;> (rw [hbel'.cell (by simp; omega)]; simp [*])))
        ((go_at_call 9; refine (writeKey w.heap.size w.heap.size (pathTo lv k) a c q _ (by exact hB.out) (by exact HQ.out) (by omega) (by exact hbel.out.size)).mono ?_; rintro e w' ⟨rfl, hB', hbel'⟩))
      have HB' : Hid (Lib.IsBuilder 42 5 w.heap.size w.heap.size (Lib.byteCells (pathTo lv (k + 1))) w') := by rw [hsucc.out]; exact hB'
      have HL' : Hid (Below w.heap.size w w') := hbel.out.drew.trans hbel'
      clear hB' hbel' hw1 hw2
      go_wp2
      go_roundw
      case rel => exact ⟨k + 1, by omega, by go_num, HB', HL'⟩
      case measure => simp [intOf]; omega
    · have e : k = n := by omega
      subst e
      go_wp2_with fail
      refine (writeKey w.heap.size w.heap.size (pathTo lv k) ka kc key _ hB.out (HK.out.below hbel.out) (by omega) hbel.out.size).mono ?_
      rintro e w2 ⟨rfl, h2, hb2⟩
      have hs2 := hb2.size
      have hs1 := hbel.out.size
      have H2 : Hid (Lib.IsBuilder 42 5 w.heap.size w.heap.size (Lib.byteCells (joinStep (pathTo lv k) key)) w2) := h2
      have HL2 : Hid (Below w.heap.size w w2) := hbel.out.trans hb2
      clear h2 hb2 hs2 hs1
      go_wp2_with fail
      refine (Bld.string w.heap.size w.heap.size (joinStep (pathTo lv k) key) _ H2.out HL2.out.size).mono ?_
      rintro e w3 ⟨rfl, hb3⟩
      have HL3 : Hid (Below w.heap.size w w3) := HL2.out.trans hb3
      clear hb3
      go_wp2
      go_ret
      exact ⟨rfl, HL3.out⟩

end Go.Proofs.YbulkltgFmt
