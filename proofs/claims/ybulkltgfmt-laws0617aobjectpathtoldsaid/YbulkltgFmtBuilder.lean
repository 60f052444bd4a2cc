/-
  Seat b0617aF. strings.Builder's methods on this dump, by their contracts: Len (13), WriteByte (14), Write (15), after the guide's shelf (its Builder texts), walked here over this program; copyCheck and String: YbulkltgFmtShelf.
-/
import Derived.Test.YbulkltgFmtShelf
import Derived.WalkKit
import Derived.WalkSpells
import Derived.WalkLawsBesides
import Derived.Lib.Builder
import Derived.Laws.AppendOwnNone
namespace Go.Proofs.YbulkltgFmt.Bld
open Go.RowKit

theorem info5 : (Ybaf.prog.info? 5).map (fun i => (i.zero, i.size, i.bytes)) = some (some (.int .u8 0), 1, 1) := by kernel_rfl
theorem cells5 : Ybaf.prog.cellsOf 5 = 1 := by kernel_rfl

set_option maxHeartbeats 400000 in
theorem len (B b : Nat) (bs : List Value) (w : World) (h : Lib.IsBuilder 42 5 B b bs w) :
    Calls Ybaf.prog 13 #[.pointer (some ⟨b, 0, none⟩)] w fun e w' => e = .returned (.int .i64 bs.length) ∧ w' = w := by
  obtain ⟨p, hB, v, hbk, hown, hne⟩ : ∃ p, Lib.BuilderAt 42 5 B b p bs w := by
    rcases h with h | h
    · exact ⟨_, h⟩
    · exact ⟨_, h⟩
  obtain ⟨ao, cap, rfl⟩ : ∃ ao cap, v = .slice ao bs.length cap := by
    rcases hown.2 with ⟨hv, h0⟩ | ⟨g, cap, cur, hv, _⟩
    · exact ⟨none, 0, by rw [hv, h0]⟩
    · exact ⟨_, _, hv⟩
  have c1 : w.cell? ⟨b, 1, none⟩ = some (.slice ao bs.length cap) := by rw [Lib.cell_of_heap hbk]; rfl
  clear hbk hown hne hB
  go_enter Ybaf.func13, Ybaf.ntmps13
  go_wp2
  go_ret
  exact ⟨rfl, rfl⟩

set_option maxHeartbeats 1000000 in
theorem writeByte (B b : Nat) (bs : List Value) (c : Int) (w : World) (h : Lib.IsBuilder 42 5 B b bs w) (hlen : bs.length + 1 ≤ 140737488355328) (hBw : B ≤ w.heap.size) :
    Calls Ybaf.prog 14 #[.pointer (some ⟨b, 0, none⟩), .int .u8 c] w fun e w' => e = .returned .nilIface ∧ (Lib.BuilderAt 42 5 B b (.pointer (some ⟨b, 0, none⟩)) (bs ++ [.int .u8 c]) w' ∧ Below B w w') := by
  obtain ⟨i0, hi, hz0, hz1, hz2⟩ := info_parts info5
  go_enter Ybaf.func14, Ybaf.ntmps14
  go_wp2_with (go_at_call 19; refine (copyCheck B b bs _ h).mono ?_)
  rintro e w1 ⟨rfl, h1, hb1⟩
  obtain ⟨hB, v, hbk, hown, hne⟩ := h1
  have c0 : w1.cell? ⟨b, 0, none⟩ = some (.pointer (some ⟨b, 0, none⟩)) := by rw [Lib.cell_of_heap hbk]; rfl
  have c1 : w1.cell? ⟨b, 1, none⟩ = some v := by rw [Lib.cell_of_heap hbk]; rfl
  go_wp2_with (at_builtin; refine wpList_append_own _ rfl _ _ 23 rfl B 5 i0 (.int .u8 0) 1 1 Ybaf.underlying23 hi hz0 hz1 hz2 rfl (by decide) _ _ _ rfl (hown.alloc _) ⟨w1.heap.size, 0, none⟩ 1 1 [.int .u8 c] rfl rfl ?c1 ?c2 ?c3 ?c4 ?c5 ?_)
  case c1 =>
    intro j u hj
    match j, hj with
    | 0, hj => simp at hj; subst hj; simp [Addr.add]
  case c2 => intro u hu; simp at hu; subst hu; rfl
  case c3 => unfold maxLen; omega
  case c4 => omega
  case c5 => have := hb1.size; simp; omega
  intro v' w2 hown' hgrow _
  have hlt : b < w1.heap.size := by
    rcases Nat.lt_or_ge b w1.heap.size with h' | h'
    · exact h'
    · simp [Array.getElem?_eq_none h'] at hbk
  have hb2 : w2.heap[b]? = some (.cells #[.pointer (some ⟨b, 0, none⟩), v] 42 (0, 0)) := by
    rw [hgrow.block b (by simp; omega) (fun e => hne e.symm), Lib.alloc_old w1 _ b hlt]
    exact hbk
  have d0 : w2.cell? ⟨b, 0, none⟩ = some (.pointer (some ⟨b, 0, none⟩)) := by rw [Lib.cell_of_heap hb2]; rfl
  have d1 : w2.cell? ⟨b, 1, none⟩ = some v := by rw [Lib.cell_of_heap hb2]; rfl
  have f1 : w2.frozen? ⟨b, 1, none⟩ = false := Lib.frozen_of_heap hb2 1
  obtain ⟨g, cap, rfl⟩ : ∃ g cap, v' = .slice (some ⟨g, 0, none⟩) (bs.length + 1) cap := by
    rcases hown'.2 with ⟨_, h0⟩ | ⟨g, cap, cur, hv, _⟩
    · omega
    · exact ⟨g, cap, hv⟩
  go_wp2
  go_ret
  refine ⟨rfl, ?_, ?_⟩
  · exact Lib.BuilderAt.put (T := 42) (e := 5) hB hb2 (bs' := bs ++ [.int .u8 c]) (by simpa using hown') (by decide)
  · exact ((hb1.alloc (by have := hb1.size; omega) _).grown hgrow (by have := hb1.size; simp; omega) (fun k hk => (hown.lt k hk).1)).setCell (p := ⟨b, 1, none⟩) hB _

set_option maxHeartbeats 1000000 in
theorem write_some (B b : Nat) (bs : List Value) (ad : Addr) (m c : Nat) (news : List Value) (w : World) (h : Lib.IsBuilder 42 5 B b bs w)
    (hl : news.length = m) (hnews : ∀ j u, news[j]? = some u → ad.block < B ∧ w.cell? (ad.add j) = some u) (h1 : ∀ u ∈ news, u.oneCell' = true)
    (hlen : bs.length + m ≤ 140737488355328) (hBw : B ≤ w.heap.size) :
    Calls Ybaf.prog 15 #[.pointer (some ⟨b, 0, none⟩), .slice (some ad) m c] w fun e w' => e = .returned (.tuple #[.int .i64 m, .nilIface]) ∧ (Lib.BuilderAt 42 5 B b (.pointer (some ⟨b, 0, none⟩)) (bs ++ news) w' ∧ Below B w w') := by
  obtain ⟨i0, hi, hz0, hz1, hz2⟩ := info_parts info5
  go_enter Ybaf.func15, Ybaf.ntmps15
  go_wp2_with (go_at_call 19; refine (copyCheck B b bs _ h).mono ?_)
  rintro e w1 ⟨rfl, h1', hb1⟩
  obtain ⟨hB, v, hbk, hown, hne⟩ := h1'
  have c0 : w1.cell? ⟨b, 0, none⟩ = some (.pointer (some ⟨b, 0, none⟩)) := by rw [Lib.cell_of_heap hbk]; rfl
  have c1 : w1.cell? ⟨b, 1, none⟩ = some v := by rw [Lib.cell_of_heap hbk]; rfl
  have hnews1 : ∀ j u, news[j]? = some u → w1.cell? (ad.add j) = some u := fun j u hj => by rw [hb1.cell (p := ad.add j) (by unfold Addr.add; split <;> exact (hnews j u hj).1)]; exact (hnews j u hj).2
  clear hnews
  go_wp2_with (at_builtin; refine wpList_append_own _ rfl _ _ 23 rfl B 5 i0 (.int .u8 0) 1 1 Ybaf.underlying23 hi hz0 hz1 hz2 rfl (by decide) _ _ _ rfl hown ad m c news rfl (by omega) hnews1 h1 ?c3 ?c4 ?c5 ?_)
  case c3 => unfold maxLen; omega
  case c4 => omega
  case c5 => have := hb1.size; omega
  intro v' w2 hown' hgrow _
  have hlt : b < w1.heap.size := by
    rcases Nat.lt_or_ge b w1.heap.size with h' | h'
    · exact h'
    · simp [Array.getElem?_eq_none h'] at hbk
  have hb2 : w2.heap[b]? = some (.cells #[.pointer (some ⟨b, 0, none⟩), v] 42 (0, 0)) := by
    rw [hgrow.block b hlt (fun e => hne e.symm)]
    exact hbk
  have d0 : w2.cell? ⟨b, 0, none⟩ = some (.pointer (some ⟨b, 0, none⟩)) := by rw [Lib.cell_of_heap hb2]; rfl
  have d1 : w2.cell? ⟨b, 1, none⟩ = some v := by rw [Lib.cell_of_heap hb2]; rfl
  have f1 : w2.frozen? ⟨b, 1, none⟩ = false := Lib.frozen_of_heap hb2 1
  obtain ⟨ao, n', cap, rfl⟩ : ∃ ao n' cap, v' = .slice ao n' cap := by
    rcases hown'.2 with ⟨hv, _⟩ | ⟨g, cap, cur, hv, _⟩
    · exact ⟨_, _, _, hv⟩
    · exact ⟨_, _, _, hv⟩
  clear hnews1
  go_wp2
  go_ret2
  refine ⟨rfl, ?_, ?_⟩
  · exact Lib.BuilderAt.put (T := 42) (e := 5) hB hb2 (bs' := bs ++ news) (by simpa [hl] using hown') (by decide)
  · exact (hb1.grown hgrow (by have := hb1.size; omega) (fun k hk => (hown.lt k hk).1)).setCell (p := ⟨b, 1, none⟩) hB _

set_option maxHeartbeats 1000000 in
theorem write_nil (B b : Nat) (bs : List Value) (w : World) (h : Lib.IsBuilder 42 5 B b bs w) :
    Calls Ybaf.prog 15 #[.pointer (some ⟨b, 0, none⟩), .slice none 0 0] w fun e w' => e = .returned (.tuple #[.int .i64 0, .nilIface]) ∧ (Lib.BuilderAt 42 5 B b (.pointer (some ⟨b, 0, none⟩)) bs w' ∧ Below B w w') := by
  obtain ⟨i0, hi, hz0, hz1, hz2⟩ := info_parts info5
  go_enter Ybaf.func15, Ybaf.ntmps15
  go_wp2_with (go_at_call 19; refine (copyCheck B b bs _ h).mono ?_)
  rintro e w1 ⟨rfl, h1', hb1⟩
  obtain ⟨hB, v, hbk, hown, hne⟩ := h1'
  obtain ⟨ao, n', cap, rfl⟩ : ∃ ao n' cap, v = .slice ao n' cap := by
    rcases hown.2 with ⟨hv, _⟩ | ⟨g, cap, cur, hv, _⟩
    · exact ⟨_, _, _, hv⟩
    · exact ⟨_, _, _, hv⟩
  have c0 : w1.cell? ⟨b, 0, none⟩ = some (.pointer (some ⟨b, 0, none⟩)) := by rw [Lib.cell_of_heap hbk]; rfl
  have c1 : w1.cell? ⟨b, 1, none⟩ = some (.slice ao n' cap) := by rw [Lib.cell_of_heap hbk]; rfl
  have f1 : w1.frozen? ⟨b, 1, none⟩ = false := Lib.frozen_of_heap hbk 1
  go_wp2_with (at_builtin; refine wpList_append_own_none rfl _ _ 23 rfl B 5 i0 1 Ybaf.underlying23 hi _ _ _ rfl hown rfl ?_)
  go_wp2
  go_ret2
  exact ⟨rfl, Lib.BuilderAt.put (T := 42) (e := 5) hB hbk hown (by decide), hb1.setCell (p := ⟨b, 1, none⟩) hB _⟩

/-- Write, p whatever slice of bytes: nil, or the bytes k below block B. -/
theorem write (B b : Nat) (l : List UInt8) (a : Option Addr) (c : Nat) (k : List UInt8) (w : World) (h : Lib.IsBuilder 42 5 B b (Lib.byteCells l) w)
    (ha : a = none → k = [] ∧ c = 0) (hk : ∀ ad, a = some ad → ∀ j x, k[j]? = some x → ad.block < B ∧ w.cell? (ad.add j) = some (.int .u8 x.toNat))
    (hlen : l.length + k.length ≤ 140737488355328) (hBw : B ≤ w.heap.size) :
    Calls Ybaf.prog 15 #[.pointer (some ⟨b, 0, none⟩), .slice a k.length c] w fun e w' => e = .returned (.tuple #[.int .i64 k.length, .nilIface]) ∧ (Lib.IsBuilder 42 5 B b (Lib.byteCells (l ++ k)) w' ∧ Below B w w') := by
  cases a with
  | none =>
    obtain ⟨rfl, rfl⟩ := ha rfl
    refine (write_nil B b _ w h).mono ?_
    rintro e w' ⟨rfl, h1, h2⟩
    exact ⟨rfl, Or.inr (by simpa using h1), h2⟩
  | some ad =>
    refine (write_some B b _ ad k.length c (Lib.byteCells k) w h (Lib.byteCells_length k) ?_ ?_ (by rw [Lib.byteCells_length]; exact hlen) hBw).mono ?_
    · intro j u hu
      simp only [Lib.byteCells, List.getElem?_map, Option.map_eq_some_iff] at hu
      obtain ⟨x, hx, rfl⟩ := hu
      exact hk ad rfl j x hx
    · intro u hu
      simp only [Lib.byteCells, List.mem_map] at hu
      obtain ⟨x, _, rfl⟩ := hu
      rfl
    · rintro e w' ⟨rfl, h1, h2⟩
      exact ⟨rfl, Or.inr (by rw [Lib.byteCells_append]; exact h1), h2⟩

end Go.Proofs.YbulkltgFmt.Bld
