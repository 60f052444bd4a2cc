/-
  Seat b0617aF. LawS0617AObjectPath (3): the walk where there is no level (a nil slice too).
-/
import Derived.Test.YbulkltgFmtObject
namespace Go.Proofs.YbulkltgFmt
open Go.RowKit

theorem path_none (key : List UInt8) : joinStep (pathTo [] 0) key = key := by simp [pathTo, joinStep]

set_option maxHeartbeats 2000000 in
theorem object_zero (w : World) (la : Option Addr) (lc : Nat) (ka : Option Addr) (kc : Nat) (key : List UInt8) (inner : Bool) (idx : Int) (hkey : key.length ≤ 1024) (hk : BytesAt w.heap.size w ka kc key) :
    Calls Ybaf.prog 3 #[.slice la 0 lc, .slice ka key.length kc, .bool inner, .int .i64 idx] w fun e w' => e = .returned (.bool true) ∧ Below w.heap.size w w' := by
  have HK : Hid (BytesAt w.heap.size w ka kc key) := hk
  clear hk
  obtain ⟨i0, hi, hz0, hz1, hz2⟩ := info_parts info25
  have kc0 := fun (w : World) (C : Array Value) (n c : Nat) => Lib.run_convert_bytes_const (P := Ybaf.prog) w 23 5 C n c Ybaf.underlying23 Ybaf.underlying5
  go_enter Ybaf.func3, Ybaf.ntmps3
  go_wp2
  refine wp_loop_rounds 1 ?_
  rw [rounds_succ]
  go_wp2_with (at_make; refine wpList_make_own _ rfl _ _ 24 rfl w.heap.size 25 i0 (.pointer none) 1 Ybaf.underlying24 hi hz0 hz1 .i64 .i64 _ 1 rfl rfl (by omega) (by rw [hz2]; omega) (by unfold maxLen; omega) (Nat.le_refl _) ?_)
  intro w1 hown1 hgrow1
  have HB1 : Hid (Built w.heap.size w.heap.size 1 [] 0 [] w1) := ⟨hown1, fun j hj => absurd hj (by omega)⟩
  have HBel1 : Hid (Below w.heap.size w w1) := (Below.refl _ _).grown hgrow1 (Nat.le_refl _) (fun k hk => by cases hk)
  clear hown1 hgrow1
  go_wp2
  refine wp_loop_rounds 1 ?_
  rw [rounds_succ]
  have hsz := HBel1.out.size
  cases inner with
  | true =>
    go_wp2_with (at_builtin; refine wpList_append_fits _ rfl (.tmp 77) (.tmp 79) 24 rfl w.heap.size 25 i0 1 Ybaf.underlying24 hi hz1 w.heap.size 0 1 [] rfl ((HB1.out.1.alloc _).alloc _) ⟨w1.heap.size + 1, 0, none⟩ 1 1 [.pointer (some ⟨w1.heap.size, 0, none⟩)] rfl rfl (cell_one _ _ _ _ (by simp)) (by intro u hu; simp at hu; subst hu; rfl) (by omega) ?_)
    intro w3 hown3 hgrow3
    have HBel3 : Hid (Below w.heap.size w w3) := ((HBel1.out.alloc hsz _).alloc (by simp; omega) _).grown hgrow3 (by simp; omega) (fun j hj => by simp at hj; omega)
    have hO3 : w.heap.size < w3.heap.size := by
      have := hgrow3.size
      have hlt := (Array.getElem?_eq_some_iff.1 HB1.out.block.choose_spec).1
      simp at this
      omega
    clear hown3 hgrow3 HB1 HBel1 hsz
    have HBYK : Hid (BytesAt w.heap.size w3 ka kc key) := HK.out.below HBel3.out
    go_wp2_with (at_builtin; refine app_bytes rfl (.const (.slice none 0 0)) (.tmp 81) rfl w.heap.size _ 0 [] rfl (World.ownsRow_nil _ _ _ _) ka kc key rfl HBYK.out (by omega) HBel3.out.size ?_)
    intro v4 w4 hown4 hgrow4
    obtain ⟨ao, cap, hv4⟩ := own_form hown4
    rw [hv4] at hown4 ⊢
    have HKC : Hid (BytesAt w4.heap.size w4 ao cap key) := BytesAt.of_own hown4
    have hs4 := hgrow4.size
    have HBel4 : Hid (Below w.heap.size w w4) := HBel3.out.grown hgrow4 HBel3.out.size (fun k hk => by cases hk)
    have hO4 : w.heap.size < w4.heap.size := by omega
    clear hown4 hgrow4 hv4 hs4 HBel3 hO3 HBYK
    go_wp2_with fail
    refine (keyPath_n w4 [] 0 rfl w.heap.size 1 ao cap key (by omega) (fun j hj => absurd hj (by omega)) hkey hO4 (Nat.le_refl _) (fun i hi => absurd hi (by omega)) HKC.out).mono ?_
    rintro e w5 ⟨rfl, hb5⟩
    rw [path_none]
    have HBel5 : Hid (Below w.heap.size w w5) := HBel4.out.trans (hb5.mono (by omega))
    clear hb5 HKC HBel4 hO4
    go_wp2_with fail
    refine (expect_zero w5 la lc ka kc key hkey ((HK.out.below HBel5.out).mono HBel5.out.size)).mono ?_
    rintro e w6 ⟨rfl, hb6⟩
    have HBel6 : Hid (Below w.heap.size w w6) := HBel5.out.trans (hb6.mono HBel5.out.size)
    clear hb6 HBel5
    go_wp2
    go_ret
    exact ⟨by simp, HBel6.out⟩
  | false =>
    have kc1 : ∀ (o : Obj) (C : Array Value) (n c : Nat), (convert 23 23 (.slice (some ⟨w1.heap.size + 1, 0, none⟩) n c)).run Ybaf.prog ((w1.alloc o).alloc (.cells C 5)) = .ok (.slice (some ⟨w1.heap.size + 1, 0, none⟩) n c) ((w1.alloc o).alloc (.cells C 5 (C.size, C.size + 1))) := fun o C n c => by simpa using kc0 (w1.alloc o) C n c
    clear kc0
    go_wp2_with (at_builtin; refine wpList_append_fits _ rfl (.tmp 77) (.tmp 79) 24 rfl w.heap.size 25 i0 1 Ybaf.underlying24 hi hz1 w.heap.size 0 1 [] rfl ((((HB1.out.1.alloc _).alloc _).alloc _).alloc _) ⟨w1.heap.size + 1 + 1 + 1, 0, none⟩ 1 1 [.pointer (some ⟨w1.heap.size, 0, none⟩)] rfl rfl (cell_one _ _ _ _ (by simp)) (by intro u hu; simp at hu; subst hu; rfl) (by omega) ?_)
    intro w3 hown3 hgrow3
    have HBel3 : Hid (Below w.heap.size w w3) := ((((HBel1.out.alloc hsz _).alloc (by simp; omega) _).alloc (by simp; omega) _).alloc (by simp; omega) _).grown hgrow3 (by simp; omega) (fun j hj => by simp at hj; omega)
    have hO3 : w.heap.size < w3.heap.size := by
      have := hgrow3.size
      have hlt := (Array.getElem?_eq_some_iff.1 HB1.out.block.choose_spec).1
      simp at this
      omega
    clear hown3 hgrow3 HB1 HBel1 hsz
    have HBYK : Hid (BytesAt w.heap.size w3 ka kc key) := HK.out.below HBel3.out
    go_wp2_with (at_builtin; refine app_bytes rfl (.const (.slice none 0 0)) (.tmp 81) rfl w.heap.size _ 0 [] rfl (World.ownsRow_nil _ _ _ _) ka kc key rfl HBYK.out (by omega) HBel3.out.size ?_)
    intro v4 w4 hown4 hgrow4
    obtain ⟨ao, cap, hv4⟩ := own_form hown4
    rw [hv4] at hown4 ⊢
    have HKC : Hid (BytesAt w4.heap.size w4 ao cap key) := BytesAt.of_own hown4
    have hs4 := hgrow4.size
    have HBel4 : Hid (Below w.heap.size w w4) := HBel3.out.grown hgrow4 HBel3.out.size (fun k hk => by cases hk)
    have hO4 : w.heap.size < w4.heap.size := by omega
    clear hown4 hgrow4 hv4 hs4 HBel3 hO3 HBYK
    go_wp2_with fail
    refine (keyPath_n w4 [] 0 rfl w.heap.size 1 ao cap key (by omega) (fun j hj => absurd hj (by omega)) hkey hO4 (Nat.le_refl _) (fun i hi => absurd hi (by omega)) HKC.out).mono ?_
    rintro e w5 ⟨rfl, hb5⟩
    rw [path_none]
    have HBel5 : Hid (Below w.heap.size w w5) := HBel4.out.trans (hb5.mono (by omega))
    clear hb5 HKC HBel4 hO4
    go_wp2_with fail
    refine (expect_zero w5 la lc ka kc key hkey ((HK.out.below HBel5.out).mono HBel5.out.size)).mono ?_
    rintro e w6 ⟨rfl, hb6⟩
    have HBel6 : Hid (Below w.heap.size w w6) := HBel5.out.trans (hb6.mono HBel5.out.size)
    clear hb6 HBel5
    go_wp2
    go_ret
    exact ⟨by simp, HBel6.out⟩

end Go.Proofs.YbulkltgFmt
