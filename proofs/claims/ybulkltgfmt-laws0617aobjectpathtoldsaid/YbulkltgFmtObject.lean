/-
  Seat b0617aF. LawS0617AObjectPath (3): the walk.
-/
import Derived.Test.YbulkltgFmtObjInv
import Derived.Lib.SlBytesConst
namespace Go.Proofs.YbulkltgFmt
open Go.RowKit

set_option maxHeartbeats 400000 in
theorem object_many (la : Option Addr) (n lc : Nat) (ka : Option Addr) (kn kc : Nat) (inner : Bool) (idx : Int) (w : World) (h : 256 < n) :
    Calls Ybaf.prog 3 #[.slice la n lc, .slice ka kn kc, .bool inner, .int .i64 idx] w fun e w' => e = .returned (.bool true) ∧ Below w.heap.size w w' := by
  go_enter Ybaf.func3, Ybaf.ntmps3
  go_wp2
  go_ret
  exact ⟨rfl, Below.refl _ _⟩

set_option maxHeartbeats 400000 in
theorem object_key (la : Option Addr) (n lc : Nat) (ka : Option Addr) (kn kc : Nat) (inner : Bool) (idx : Int) (w : World) (h : n ≤ 256) (h2 : 1024 < kn) :
    Calls Ybaf.prog 3 #[.slice la n lc, .slice ka kn kc, .bool inner, .int .i64 idx] w fun e w' => e = .returned (.bool true) ∧ Below w.heap.size w w' := by
  go_enter Ybaf.func3, Ybaf.ntmps3
  go_wp2
  go_ret
  exact ⟨rfl, Below.refl _ _⟩

theorem keyPath_n (w : World) (lv : List (List UInt8)) (n : Nat) (hN : n = lv.length) (ob oc : Nat) (ka : Option Addr) (kc : Nat) (key : List UInt8) (hn : n ≤ 256) (hlv : ∀ j, j < n → (lv.getD j []).length ≤ 1024) (hkey : key.length ≤ 1024)
    (hob : ob < w.heap.size) (hoc : n + 1 ≤ oc) (hopen : ∀ i, i < n → ∃ p, w.cell? ⟨ob, i, none⟩ = some p ∧ Cont w.heap.size w p (lv.getD i [])) (hk : BytesAt w.heap.size w ka kc key) :
    Calls Ybaf.prog 6 #[.slice (some ⟨ob, 0, none⟩) (n + 1) oc, .slice ka key.length kc] w fun e w' => e = .returned (.string ⟨(joinStep (pathTo lv n) key).toArray⟩) ∧ Below w.heap.size w w' := by
  subst hN
  refine keyPath w lv ob oc ka kc key hn (fun x hx => ?_) hkey hob hoc hopen hk
  obtain ⟨i, hi, rfl⟩ := List.mem_iff_getElem.1 hx
  have := hlv i hi
  rwa [List.getD_eq_getElem?_getD, List.getElem?_eq_getElem hi] at this

theorem expect_n (w : World) (lv : List (List UInt8)) (n : Nat) (hN : n = lv.length) (b off lc : Nat) (ka : Option Addr) (kc : Nat) (key : List UInt8) (hn : n ≤ 256) (hlv : ∀ j, j < n → (lv.getD j []).length ≤ 1024) (hkey : key.length ≤ 1024)
    (hb : 0 < n → b < w.heap.size) (hrow : ∀ i, i < n → ∃ a c, w.cell? ⟨b, off + i, none⟩ = some (.slice a (lv.getD i []).length c) ∧ BytesAt w.heap.size w a c (lv.getD i [])) (hk : BytesAt w.heap.size w ka kc key) :
    Calls Ybaf.prog 7 #[.slice (some ⟨b, off, none⟩) n lc, .slice ka key.length kc] w fun e w' => e = .returned (.string ⟨(joinStep (pathTo lv n) key).toArray⟩) ∧ Below w.heap.size w w' := by
  subst hN
  refine expect_some w lv b off lc ka kc key hn (fun x hx => ?_) hkey hb hrow hk
  obtain ⟨i, hi, rfl⟩ := List.mem_iff_getElem.1 hx
  have := hlv i hi
  rwa [List.getD_eq_getElem?_getD, List.getElem?_eq_getElem hi] at this

theorem cell_one (W : World) (v : Value) (T : TypeId) (g : Nat) (hg : W.heap.size = g) : ∀ (j : Nat) (u : Value), [v][j]? = some u → (W.alloc (.cells #[v] T)).cell? ((⟨g, 0, none⟩ : Addr).add j) = some u := by
  subst hg
  exact cell_one_new W v T

set_option maxHeartbeats 2000000 in
theorem object_main (w : World) (lv : List (List UInt8)) (b off lc : Nat) (ka : Option Addr) (kc : Nat) (key : List UInt8) (inner : Bool) (idx : Int) (hn : lv.length ≤ 256) (hkey : key.length ≤ 1024)
    (hb : 0 < lv.length → b < w.heap.size) (hrow : ∀ i, i < lv.length → ∃ a c, w.cell? ⟨b, off + i, none⟩ = some (.slice a (lv.getD i []).length c) ∧ BytesAt w.heap.size w a c (lv.getD i [])) (hk : BytesAt w.heap.size w ka kc key) :
    Calls Ybaf.prog 3 #[.slice (some ⟨b, off, none⟩) lv.length lc, .slice ka key.length kc, .bool inner, .int .i64 idx] w fun e w' => e = .returned (.bool true) ∧ Below w.heap.size w w' := by
  have HR : Hid (∀ i, i < lv.length → ∃ a c, w.cell? ⟨b, off + i, none⟩ = some (.slice a (lv.getD i []).length c) ∧ BytesAt w.heap.size w a c (lv.getD i [])) := hrow
  have HK : Hid (BytesAt w.heap.size w ka kc key) := hk
  clear hrow hk
  obtain ⟨n, HN⟩ : ∃ n, Hid (n = lv.length) := ⟨_, rfl⟩
  have hn' : n ≤ 256 := by rw [HN.out]; exact hn
  have hb' : 0 < n → b < w.heap.size := by rw [HN.out]; exact hb
  have HR' : Hid (∀ i, i < n → ∃ a c, w.cell? ⟨b, off + i, none⟩ = some (.slice a (lv.getD i []).length c) ∧ BytesAt w.heap.size w a c (lv.getD i [])) := by rw [HN.out]; exact HR
  rw [← HN.out]
  clear hn hb HR
  obtain ⟨i0, hi, hz0, hz1, hz2⟩ := info_parts info25
  go_enter Ybaf.func3, Ybaf.ntmps3
  go_wp2
  go_loop [9] (fun i => ∃ k : Nat, k ≤ n ∧ i = .int .i64 k ∧ Hid (∀ j, j < k → (lv.getD j []).length ≤ 1024)) (fun i => n - (intOf i).toNat)
  case atStart => exact ⟨0, Nat.zero_le _, rfl, fun j hj => absurd hj (by omega)⟩
  case round =>
    obtain ⟨k, hkn, rfl, HL⟩ := hrel
    by_cases hlt : k < n
    · obtain ⟨a, c, hcell, -⟩ := HR'.out k hlt
      obtain ⟨m, hm⟩ : ∃ m, Hid (m = (lv.getD k []).length) := ⟨_, rfl⟩
      rw [← hm.out] at hcell
      by_cases hlong : 1024 < m
      · go_wp2
        go_ret
        exact ⟨rfl, Below.refl _ _⟩
      · go_wp2
        go_round
        case rel => exact ⟨k + 1, by omega, by go_num, fun j hj => by
          by_cases e : j < k
          · exact HL.out j e
          · have : j = k := by omega
            subst this
            have := hm.out
            omega⟩
        case measure => simp [intOf]; omega
    · have e : k = n := by omega
      subst e
      go_wp2_with (at_make; refine wpList_make_own _ rfl _ _ 24 rfl w.heap.size 25 i0 (.pointer none) 1 Ybaf.underlying24 hi hz0 hz1 .i64 .i64 _ (k + 1) rfl rfl (by omega) (by rw [hz2]; omega) (by unfold maxLen; omega) (Nat.le_refl _) ?_)
      intro w1 hown1 hgrow1
      have HB1 : Hid (Built w.heap.size w.heap.size (k + 1) lv 0 [] w1) := ⟨hown1, fun j hj => absurd hj (by omega)⟩
      have HBel1 : Hid (Below w.heap.size w w1) := (Below.refl _ _).grown hgrow1 (Nat.le_refl _) (fun k hk => by cases hk)
      clear hown1 hgrow1
      go_wp2
      have kc0 := fun (w : World) (C : Array Value) (n c : Nat) => Lib.run_convert_bytes_const (P := Ybaf.prog) w 23 5 C n c Ybaf.underlying23 Ybaf.underlying5
      go_loopw [10, 11, 12] (fun v i _ wr => ∃ (m : Nat) (ps : List Value), m ≤ k ∧ i = .int .i64 m ∧ v = .slice (some ⟨w.heap.size, 0, none⟩) m (k + 1) ∧ Hid (Built w.heap.size w.heap.size (k + 1) lv m ps wr) ∧ Hid (Below w.heap.size w wr)) (fun _ i _ _ => k - (intOf i).toNat)
      case atStart => exact ⟨0, [], Nat.zero_le _, rfl, rfl, HB1, HBel1⟩
      case round =>
        clear HB1 HBel1
        obtain ⟨m, ps, hmk, rfl, rfl, HB, HBel⟩ := hrel
        by_cases hlt2 : m < k
        · obtain ⟨a, c, hcell, hby⟩ := HR'.out m hlt2
          have hql := HL.out m hlt2
          have hcell' : wr.cell? ⟨b, off + m, none⟩ = some (.slice a (lv.getD m []).length c) := by rw [HBel.out.cell (p := ⟨b, off + m, none⟩) (hb' (by omega))]; exact hcell
          have HBY : Hid (BytesAt w.heap.size wr a c (lv.getD m [])) := hby.below HBel.out
          have HQ : Hid (∃ q, lv.getD m [] = q) := ⟨_, rfl⟩
          clear hcell hby
          obtain ⟨q, hq⟩ := HQ.out
          rw [hq] at hcell' HBY hql
          have HQQ : Hid (lv.getD m [] = q) := hq
          clear hq HQ
          go_wp2_with (at_builtin; refine app_bytes rfl (.const (.slice none 0 0)) (.tmp 49) rfl w.heap.size _ 0 [] rfl (World.ownsRow_nil _ _ _ _) a c q rfl HBY.out (by omega) HBel.out.size ?_)
          intro v1 w2 hown2 hgrow2
          obtain ⟨ao, cap, hv1⟩ := own_form hown2
          rw [hv1] at hown2 ⊢
          have HO2 : Hid (w2.ownsRow w.heap.size 5 1 (.slice ao q.length cap) q.length (Lib.byteCells q)) := hown2
          have HB2 : Hid (Built w.heap.size w.heap.size (k + 1) lv m ps w2) := HB.out.grow0 hgrow2
          have HBel2 : Hid (Below w.heap.size w w2) := HBel.out.grown hgrow2 HBel.out.size (fun k hk => by cases hk)
          clear hown2 hgrow2 hv1 hcell' HBY
          go_wp2_with (at_builtin; refine wpList_append_fits _ rfl (.tmp 51) (.tmp 62) 24 rfl w.heap.size 25 i0 1 Ybaf.underlying24 hi hz1 w.heap.size m (k + 1) ps rfl ((((HB2.out.1.alloc _).alloc _).alloc _).alloc _) ⟨w2.heap.size + 1 + 1 + 1, 0, none⟩ 1 1 [.pointer (some ⟨w2.heap.size + 1 + 1, 0, none⟩)] rfl rfl ?c1 ?c2 (by omega) ?_)
          case c1 => exact cell_one _ _ _ _ (by simp)
          case c2 => intro u hu; simp at hu; subst hu; rfl
          intro w3 hown3 hgrow3
          have HB3 : Hid (Built w.heap.size w.heap.size (k + 1) lv (m + 1) (ps ++ [.pointer (some ⟨w2.heap.size + 1 + 1, 0, none⟩)]) w3) := HB2.out.step HO2.out HQQ.out hown3 hgrow3
          have hs2 := HBel2.out.size
          have HBel3 : Hid (Below w.heap.size w w3) := ((((HBel2.out.alloc hs2 _).alloc (by simp; omega) _).alloc (by simp; omega) _).alloc (by simp; omega) _).grown hgrow3 (by simp; omega) (fun j hj => by simp at hj; omega)
          clear hown3 hgrow3 hs2 HB2 HO2 HBel2
          go_wp2
          go_roundw
          case rel => exact ⟨m + 1, _, by omega, by go_num, rfl, HB3, HBel3⟩
          case measure => simp [intOf]; omega
        · have e : m = k := by omega
          subst e
          have hsz := HBel.out.size
          cases inner with
          | true =>
            go_wp2_with (at_builtin; refine wpList_append_fits _ rfl (.tmp 77) (.tmp 79) 24 rfl w.heap.size 25 i0 1 Ybaf.underlying24 hi hz1 w.heap.size m (m + 1) ps rfl ((HB.out.1.alloc _).alloc _) ⟨wr.heap.size + 1, 0, none⟩ 1 1 [.pointer (some ⟨wr.heap.size, 0, none⟩)] rfl rfl (cell_one _ _ _ _ (by simp)) (by intro u hu; simp at hu; subst hu; rfl) (by omega) ?_)
            intro w3 hown3 hgrow3
            have HOP : Hid (∀ i, i < m → ∃ p, w3.cell? ⟨w.heap.size, i, none⟩ = some p ∧ ContH w.heap.size w3 p (lv.getD i [])) := ((HB.out.alloc _).alloc _).opens hgrow3 hown3
            have HBel3 : Hid (Below w.heap.size w w3) := ((HBel.out.alloc hsz _).alloc (by simp; omega) _).grown hgrow3 (by simp; omega) (fun j hj => by simp at hj; omega)
            have hO3 : w.heap.size < w3.heap.size := by
              have := hgrow3.size
              have hlt := (Array.getElem?_eq_some_iff.1 HB.out.block.choose_spec).1
              simp at this
              omega
            clear hown3 hgrow3 HB HBel hsz
            have HBYK : Hid (BytesAt w.heap.size w3 ka kc key) := HK.out.below HBel3.out
            go_wp2_with (at_builtin; refine app_bytes rfl (.const (.slice none 0 0)) (.tmp 81) rfl w.heap.size _ 0 [] rfl (World.ownsRow_nil _ _ _ _) ka kc key rfl HBYK.out (by omega) HBel3.out.size ?_)
            intro v4 w4 hown4 hgrow4
            obtain ⟨ao, cap, hv4⟩ := own_form hown4
            rw [hv4] at hown4 ⊢
            have HKC : Hid (BytesAt w4.heap.size w4 ao cap key) := BytesAt.of_own hown4
            have hs4 := hgrow4.size
            have HOP4 : Hid (∀ i, i < m → ∃ p, w4.cell? ⟨w.heap.size, i, none⟩ = some p ∧ Cont w4.heap.size w4 p (lv.getD i [])) := fun i hi => by
              obtain ⟨p, hp, hc⟩ := HOP.out i hi
              exact ⟨p, hgrow4.cell hp (by simp [Value.ownBlock]), (hc.grow0 hgrow4).cont⟩
            have HBel4 : Hid (Below w.heap.size w w4) := HBel3.out.grown hgrow4 HBel3.out.size (fun k hk => by cases hk)
            have hO4 : w.heap.size < w4.heap.size := by omega
            clear hown4 hgrow4 hv4 hs4 HOP HBel3 hO3 HBYK
            go_wp2_with fail
            refine (keyPath_n w4 lv m HN.out w.heap.size (m + 1) ao cap key hn' HL.out hkey hO4 (Nat.le_refl _) HOP4.out HKC.out).mono ?_
            rintro e w5 ⟨rfl, hb5⟩
            have HBel5 : Hid (Below w.heap.size w w5) := HBel4.out.trans (hb5.mono (by omega))
            clear hb5 HOP4 HKC HBel4 hO4
            go_wp2_with fail
            refine (expect_n w5 lv m HN.out b off lc ka kc key hn' HL.out hkey (fun h => Nat.lt_of_lt_of_le (hb' h) HBel5.out.size) (fun i hi => by
              obtain ⟨a, c, h1, h2⟩ := HR'.out i hi
              refine ⟨a, c, ?_, (h2.below HBel5.out).mono HBel5.out.size⟩
              rw [HBel5.out.cell (p := ⟨b, off + i, none⟩) (hb' (by omega))]
              exact h1) ((HK.out.below HBel5.out).mono HBel5.out.size)).mono ?_
            rintro e w6 ⟨rfl, hb6⟩
            have HBel6 : Hid (Below w.heap.size w w6) := HBel5.out.trans (hb6.mono HBel5.out.size)
            clear hb6 HBel5
            go_wp2
            go_ret
            exact ⟨by simp, HBel6.out⟩
          | false =>
            have kc1 : ∀ (o : Obj) (C : Array Value) (n c : Nat), (convert 23 23 (.slice (some ⟨wr.heap.size + 1, 0, none⟩) n c)).run Ybaf.prog ((wr.alloc o).alloc (.cells C 5)) = .ok (.slice (some ⟨wr.heap.size + 1, 0, none⟩) n c) ((wr.alloc o).alloc (.cells C 5 (C.size, C.size + 1))) := fun o C n c => by simpa using kc0 (wr.alloc o) C n c
            clear kc0
            go_wp2_with (at_builtin; refine wpList_append_fits _ rfl (.tmp 77) (.tmp 79) 24 rfl w.heap.size 25 i0 1 Ybaf.underlying24 hi hz1 w.heap.size m (m + 1) ps rfl ((((HB.out.1.alloc _).alloc _).alloc _).alloc _) ⟨wr.heap.size + 1 + 1 + 1, 0, none⟩ 1 1 [.pointer (some ⟨wr.heap.size, 0, none⟩)] rfl rfl (cell_one _ _ _ _ (by simp)) (by intro u hu; simp at hu; subst hu; rfl) (by omega) ?_)
            intro w3 hown3 hgrow3
            have HOP : Hid (∀ i, i < m → ∃ p, w3.cell? ⟨w.heap.size, i, none⟩ = some p ∧ ContH w.heap.size w3 p (lv.getD i [])) := ((((HB.out.alloc _).alloc _).alloc _).alloc _).opens hgrow3 hown3
            have HBel3 : Hid (Below w.heap.size w w3) := ((((HBel.out.alloc hsz _).alloc (by simp; omega) _).alloc (by simp; omega) _).alloc (by simp; omega) _).grown hgrow3 (by simp; omega) (fun j hj => by simp at hj; omega)
            have hO3 : w.heap.size < w3.heap.size := by
              have := hgrow3.size
              have hlt := (Array.getElem?_eq_some_iff.1 HB.out.block.choose_spec).1
              simp at this
              omega
            clear hown3 hgrow3 HB HBel hsz
            have HBYK : Hid (BytesAt w.heap.size w3 ka kc key) := HK.out.below HBel3.out
            go_wp2_with (at_builtin; refine app_bytes rfl (.const (.slice none 0 0)) (.tmp 81) rfl w.heap.size _ 0 [] rfl (World.ownsRow_nil _ _ _ _) ka kc key rfl HBYK.out (by omega) HBel3.out.size ?_)
            intro v4 w4 hown4 hgrow4
            obtain ⟨ao, cap, hv4⟩ := own_form hown4
            rw [hv4] at hown4 ⊢
            have HKC : Hid (BytesAt w4.heap.size w4 ao cap key) := BytesAt.of_own hown4
            have hs4 := hgrow4.size
            have HOP4 : Hid (∀ i, i < m → ∃ p, w4.cell? ⟨w.heap.size, i, none⟩ = some p ∧ Cont w4.heap.size w4 p (lv.getD i [])) := fun i hi => by
              obtain ⟨p, hp, hc⟩ := HOP.out i hi
              exact ⟨p, hgrow4.cell hp (by simp [Value.ownBlock]), (hc.grow0 hgrow4).cont⟩
            have HBel4 : Hid (Below w.heap.size w w4) := HBel3.out.grown hgrow4 HBel3.out.size (fun k hk => by cases hk)
            have hO4 : w.heap.size < w4.heap.size := by omega
            clear hown4 hgrow4 hv4 hs4 HOP HBel3 hO3 HBYK
            go_wp2_with fail
            refine (keyPath_n w4 lv m HN.out w.heap.size (m + 1) ao cap key hn' HL.out hkey hO4 (Nat.le_refl _) HOP4.out HKC.out).mono ?_
            rintro e w5 ⟨rfl, hb5⟩
            have HBel5 : Hid (Below w.heap.size w w5) := HBel4.out.trans (hb5.mono (by omega))
            clear hb5 HOP4 HKC HBel4 hO4
            go_wp2_with fail
            refine (expect_n w5 lv m HN.out b off lc ka kc key hn' HL.out hkey (fun h => Nat.lt_of_lt_of_le (hb' h) HBel5.out.size) (fun i hi => by
              obtain ⟨a, c, h1, h2⟩ := HR'.out i hi
              refine ⟨a, c, ?_, (h2.below HBel5.out).mono HBel5.out.size⟩
              rw [HBel5.out.cell (p := ⟨b, off + i, none⟩) (hb' (by omega))]
              exact h1) ((HK.out.below HBel5.out).mono HBel5.out.size)).mono ?_
            rintro e w6 ⟨rfl, hb6⟩
            have HBel6 : Hid (Below w.heap.size w w6) := HBel5.out.trans (hb6.mono HBel5.out.size)
            clear hb6 HBel5
            go_wp2
            go_ret
            exact ⟨by simp, HBel6.out⟩

end Go.Proofs.YbulkltgFmt
