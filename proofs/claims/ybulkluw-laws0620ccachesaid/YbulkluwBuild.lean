/-
  Seat b0620a. zzs0620bbuild (8), by its contract.
-/
import Derived.Test.YbulkluwBuildInv
namespace Go.Proofs.Ybulkluw
open Go.RowKit
attribute [local go_sem] run_store_float

def qItems (its : List (Int × Int)) : List Int := its.map fun p => qOf p.1 p.2
def qRow (row : List (List (Int × Int))) : List (List Int) := row.map qItems
def qAll (R : List (List (List (Int × Int)))) : List (List (List Int)) := R.map qRow

theorem getD_map {α β : Type} (l : List α) (f : α → β) (d : α) (e : β) (k : Nat) (h : k < l.length) : (l.map f).getD k e = f (l.getD k d) := by
  rw [List.getD_eq_getElem?_getD, List.getD_eq_getElem?_getD, List.getElem?_map, List.getElem?_eq_getElem h]
  rfl

theorem qAll_length (R : List (List (List (Int × Int)))) : (qAll R).length = R.length := by simp [qAll]
theorem qRow_length (row : List (List (Int × Int))) : (qRow row).length = row.length := by simp [qRow]
theorem qItems_length (its : List (Int × Int)) : (qItems its).length = its.length := by simp [qItems]

theorem mem_at {α : Type} {l : List α} {x : α} (d : α) (h : x ∈ l) : ∃ k, k < l.length ∧ x = l.getD k d := by
  obtain ⟨k, hk, rfl⟩ := List.mem_iff_getElem.1 h
  exact ⟨k, hk, by rw [List.getD_eq_getElem?_getD, List.getElem?_eq_getElem hk]; rfl⟩

theorem mem_get {α : Type} (l : List α) (d : α) (k : Nat) (h : k < l.length) : l.getD k d ∈ l := by
  rw [List.getD_eq_getElem?_getD, List.getElem?_eq_getElem h]
  exact List.getElem_mem _

/-- Small raw data give small kinds. -/
theorem small_all {w : World} {b off : Nat} {R : List (List (List (Int × Int)))} (hR : RawAt w b off R) (hS : SmallR R) : Small (qAll R) := by
  refine ⟨by rw [qAll_length]; exact hS.1, fun row' hrow' => ?_⟩
  obtain ⟨row, hrow, rfl⟩ := List.mem_map.1 hrow'
  obtain ⟨i, hi, rfl⟩ := mem_at [] hrow
  refine ⟨by rw [qRow_length]; exact (hS.2 i hi).1, fun l' hl' => ?_⟩
  obtain ⟨its, hits, rfl⟩ := List.mem_map.1 hl'
  obtain ⟨j, hj, rfl⟩ := mem_at [] hits
  refine ⟨by rw [qItems_length]; exact (hS.2 i hi).2 j hj, fun q hq => ?_⟩
  obtain ⟨p, hp, rfl⟩ := List.mem_map.1 hq
  obtain ⟨k, hk, rfl⟩ := mem_at (0, 0) hp
  obtain ⟨a1, c1, _, _, hr⟩ := hR i hi
  obtain ⟨b1, off1, a2, c2, _, _, _, hit⟩ := hr j hj
  obtain ⟨b2, off2, _, _, _, _, h1, h2, h3, h4⟩ := hit k hk
  exact qOf_bound _ _ h1 h2

set_option maxRecDepth 100000 in
set_option maxHeartbeats 4000000 in
theorem build_some (w : World) (b off c : Nat) (R : List (List (List (Int × Int)))) (hR : RawAt w b off R) (hS : SmallR R) (n : Nat) (hn : n = R.length) :
    Calls Yba.prog 8 #[.slice (some ⟨b, off, none⟩) n c] w fun e w' => e = .returned (.tuple #[.slice (some ⟨w.heap.size, 0, none⟩) n n, .int .i64 (lg (qAll R))]) ∧ Below w.heap.size w w' ∧ w.heap.size < w'.heap.size ∧ KindsAt w' w.heap.size (qAll R) := by
  have hn64 : n ≤ 64 := by rw [hn]; exact hS.1
  have HN : Hid (n = R.length) := hn
  have HR : Hid (RawAt w b off R) := hR
  have HS : Hid (SmallR R) := hS
  have HSQ : Hid (Small (qAll R)) := small_all hR hS
  clear hn hR hS
  obtain ⟨i1, hi1, hz1, hs1, hb1⟩ : ∃ i, Yba.prog.info? 101 = some i ∧ i.zero = Yba.t101.zero ∧ i.size = 43 ∧ i.bytes = 416 := by
    obtain ⟨i, hi, he⟩ := Option.map_eq_some_iff.1 info101
    simp only [Prod.mk.injEq] at he
    exact ⟨i, hi, he.1, he.2.1, he.2.2⟩
  obtain ⟨i2, hi2, hz2, hs2, hb2⟩ := info_parts info46
  obtain ⟨i3, hi3, hz3, hs3, hb3⟩ := info_parts info95
  obtain ⟨Z, hz1'⟩ : ∃ Z : Array Value, Hid (Yba.t101.zero = some (.agg Z) ∧ Z.size = 43) := ⟨_, rfl, rfl⟩
  rw [hz1'.out.1] at hz1
  go_enter Yba.func8, Yba.ntmps8
  go_wp2_with (at_make; refine wpList_make_full _ rfl _ _ 24 rfl w.heap.size 101 i1 (.agg Z) 43 Yba.underlying24 hi1 hz1 hs1 .i64 .i64 _ _ n rfl rfl rfl rfl (by rw [hb1]; omega) (by unfold maxLen; omega) (Nat.le_refl _) ?_)
  intro w0 hown0 hgrow0
  obtain ⟨hsz0, hbel0, hcells0, hfr0⟩ := make_facts (z := .agg Z) hown0 hgrow0 hz1'.out.2
  have HK0 : Hid (KindsTo w0 w.heap.size n (qAll R) 0) := ⟨⟨hsz0, hfr0⟩, fun i' hi' => ⟨_, hcells0 i' hi' 15 (by omega)⟩, fun i' hi' => absurd hi' (by omega)⟩
  have HB0 : Hid (Below w.heap.size w w0) := hbel0
  clear hown0 hgrow0 hsz0 hbel0 hcells0 hfr0
  go_wp2
  go_loopw [5, 6] (fun lv iv wr => ∃ i : Nat, i ≤ n ∧ iv = .int .i64 i ∧ lv = .int .i64 (lg ((qAll R).take i)) ∧ Hid (Below w.heap.size w wr) ∧ Hid (KindsTo wr w.heap.size n (qAll R) i)) (fun _ iv _ => n - (intOf iv).toNat)
  case atStart => exact ⟨0, Nat.zero_le _, rfl, rfl, HB0, HK0⟩
  case round =>
    clear HB0 HK0
    rename World => wA
    obtain ⟨i, hin, rfl, rfl, hbel, hkin⟩ := hrel
    have hlb := lg_bound (qAll R) HSQ.out i (by rw [qAll_length, ← HN.out]; exact hin)
    by_cases hlt : i < n
    · obtain ⟨a1, c1, hb, hcell, hrow⟩ := HR.out i (by rw [← HN.out]; exact hlt)
      obtain ⟨row, hre⟩ : ∃ row, Hid (row = R.getD i []) := ⟨_, rfl⟩
      obtain ⟨m, hm⟩ : ∃ m, Hid (m = row.length) := ⟨_, rfl⟩
      have hm64 : m ≤ 64 := by rw [hm.out, hre.out]; exact (HS.out.2 i (by rw [← HN.out]; exact hlt)).1
      rw [← hre.out, ← hm.out] at hcell
      have HROW : Hid (RowAt w a1 row) := by rw [hre.out]; exact hrow
      have hcell' : wA.cell? ⟨b, off + i, none⟩ = some (.slice a1 m c1) := by rw [hbel.out.cell (p := ⟨b, off + i, none⟩) hb]; exact hcell
      have HCELL : Hid (w.cell? ⟨b, off + i, none⟩ = some (.slice a1 m c1)) := hcell
      have HSR : Hid ((qRow row).length ≤ 64 ∧ ∀ l ∈ qRow row, l.length ≤ 256 ∧ ∀ q ∈ l, -18014398509481984 ≤ q ∧ q ≤ 18014398509481984) := by rw [hre.out]; exact HSQ.out.2 _ (List.mem_map.2 ⟨_, mem_get R [] i (by rw [← HN.out]; exact hlt), rfl⟩)
      have hwr := hbel.out.size
      have hKBw := hkin.out.1.1
      clear hrow hcell
      go_wp2_with (at_make; refine wpList_make_full _ rfl _ _ 34 rfl w.heap.size 46 i2 (.agg (optCells (.slice none 0 0)).toArray) 10 Yba.underlying34 hi2 hz2 hs2 .i64 .i64 _ _ m rfl rfl rfl rfl (by rw [hb2]; omega) (by unfold maxLen; omega) hwr ?_)
      intro w1 hown1 hgrow1
      obtain ⟨hsz1, hbel1, hcells1, hfr1⟩ := make_facts (z := .agg (optCells (.slice none 0 0)).toArray) hown1 hgrow1 rfl
      have HO1 : Hid (OptsTo w.heap.size w1 wA.heap.size (qRow row) 0) := ⟨⟨hKBw, hsz1, hfr1⟩, fun j' hj' => ⟨.slice none 0 0, fun c hc => hcells1 j' (by rw [hm.out]; simpa [qRow] using hj') c hc, fun h => absurd h (by omega)⟩⟩
      have HB1 : Hid (Below wA.heap.size wA w1) := hbel1
      clear hown1 hgrow1 hsz1 hbel1 hcells1 hfr1 hcell'
      go_wp2
      go_loopw [5, 8] (fun lv jv wr => ∃ j : Nat, j ≤ m ∧ jv = .int .i64 j ∧ lv = .int .i64 (lgRow (lg ((qAll R).take i)) ((qRow row).take j)) ∧ Hid (Below wA.heap.size wA wr) ∧ Hid (OptsTo w.heap.size wr wA.heap.size (qRow row) j)) (fun _ jv _ => m - (intOf jv).toNat)
      case atStart => exact ⟨0, Nat.zero_le _, rfl, rfl, HB1, HO1⟩
      case round =>
        clear HB1 HO1
        rename World => wB
        obtain ⟨j, hjm, rfl, rfl, hbelB, hopt⟩ := hrel
        have hrb := lgRow_bound (lg ((qAll R).take i)) (qRow row) hlb HSR.out.2 j (by rw [qRow_length, ← hm.out]; exact hjm)
        have HBW : Hid (Below w.heap.size w wB) := hbel.out.trans (hbelB.out.mono hwr)
        have hcellB : wB.cell? ⟨b, off + i, none⟩ = some (.slice a1 m c1) := by rw [HBW.out.cell (p := ⟨b, off + i, none⟩) hb]; exact HCELL.out
        by_cases hlt2 : j < m
        · obtain ⟨b1, off1, a2, c2, ha1, hb1', hcell2, hits⟩ := HROW.out j (by rw [← hm.out]; exact hlt2)
          obtain ⟨its, hie⟩ : ∃ its, Hid (its = row.getD j []) := ⟨_, rfl⟩
          obtain ⟨ln, hln⟩ : ∃ ln, Hid (ln = its.length) := ⟨_, rfl⟩
          have hln256 : ln ≤ 256 := by rw [hln.out, hie.out, hre.out]; exact (HS.out.2 i (by rw [← HN.out]; exact hlt)).2 j (by rw [← hre.out, ← hm.out]; exact hlt2)
          rw [← hie.out, ← hln.out] at hcell2
          rw [ha1] at hcellB
          have HA1 : Hid (a1 = some ⟨b1, off1, none⟩) := ha1
          have HITS : Hid (ItemsAt w a2 its) := by rw [hie.out]; exact hits
          have HC1 : Hid (w.cell? ⟨b, off + i, none⟩ = some (.slice (some ⟨b1, off1, none⟩) m c1)) := by rw [← ha1]; exact HCELL.out
          have HC2 : Hid (w.cell? ⟨b1, off1 + j, none⟩ = some (.slice a2 ln c2)) := hcell2
          have hcellB2 : wB.cell? ⟨b1, off1 + j, none⟩ = some (.slice a2 ln c2) := by rw [HBW.out.cell (p := ⟨b1, off1 + j, none⟩) hb1']; exact hcell2
          have HSI : Hid ((qItems its).length ≤ 256 ∧ ∀ q ∈ qItems its, -18014398509481984 ≤ q ∧ q ≤ 18014398509481984) := by rw [hie.out]; exact HSR.out.2 _ (List.mem_map.2 ⟨_, mem_get row [] j (by rw [← hm.out]; exact hlt2), rfl⟩)
          have hwB := HBW.out.size
          have hoB := hopt.out.1.2.1
          clear ha1 hits hcell2
          go_wp2_with (at_make; refine wpList_make_full _ rfl _ _ 42 rfl w.heap.size 95 i3 (.agg #[.int .i64 0, .int .i64 0]) 2 Yba.underlying42 hi3 hz3 hs3 .i64 .i64 _ _ ln rfl rfl rfl rfl (by rw [hb3]; omega) (by unfold maxLen; omega) hwB ?_)
          intro w2 hown2 hgrow2
          obtain ⟨hsz2, hbel2, hcells2, hfr2⟩ := make_facts (z := .agg #[.int .i64 0, .int .i64 0]) hown2 hgrow2 rfl
          have HBU2 : Hid (BundTo w2 wB.heap.size (qItems its) 0) := ⟨⟨hsz2, hfr2⟩, fun k' hk' => by
            have hk2 : k' < ln := by rw [hln.out]; simpa [qItems] using hk'
            exact ⟨hcells2 k' hk2 0 (by omega), hcells2 k' hk2 1 (by omega)⟩⟩
          have HB2 : Hid (Below wB.heap.size wB w2) := hbel2
          clear hown2 hgrow2 hsz2 hbel2 hcells2 hfr2 hcellB hcellB2
          go_wp2
          go_loopw [10, 11] (fun sv kv wr => ∃ k : Nat, k ≤ ln ∧ kv = .int .i64 k ∧ sv = .int .i64 (sumAbs ((qItems its).take k)) ∧ Hid (Below wB.heap.size wB wr) ∧ Hid (BundTo wr wB.heap.size (qItems its) k)) (fun _ kv _ => ln - (intOf kv).toNat)
          case atStart => exact ⟨0, Nat.zero_le _, rfl, rfl, HB2, HBU2⟩
          case round =>
            clear HB2 HBU2
            rename World => wC
            obtain ⟨k, hkl, rfl, rfl, hbelC, hbun⟩ := hrel
            have HBWC : Hid (Below w.heap.size w wC) := HBW.out.trans (hbelC.out.mono hwB)
            have k1 : wC.cell? ⟨b, off + i, none⟩ = some (.slice (some ⟨b1, off1, none⟩) m c1) := by rw [HBWC.out.cell (p := ⟨b, off + i, none⟩) hb]; exact HC1.out
            have k2 : wC.cell? ⟨b1, off1 + j, none⟩ = some (.slice a2 ln c2) := by rw [HBWC.out.cell (p := ⟨b1, off1 + j, none⟩) hb1']; exact HC2.out
            have hsb := sumAbs_bound (qItems its) HSI.out.2 k (by rw [qItems_length, ← hln.out]; exact hkl)
            by_cases hlt3 : k < ln
            · obtain ⟨b2, off2, ha2, hb2', ci0, ci1, r1, r2, r3, r4⟩ := HITS.out k (by rw [← hln.out]; exact hlt3)
              rw [ha2] at k2
              have k3 : wC.cell? ⟨b2, off2 + k * 2, none⟩ = some (.int .i8 (its.getD k (0, 0)).1) := by rw [HBWC.out.cell (p := ⟨b2, off2 + k * 2, none⟩) hb2']; exact ci0
              have k4 : wC.cell? ⟨b2, off2 + k * 2 + 1, none⟩ = some (.int .u8 (its.getD k (0, 0)).2) := by rw [HBWC.out.cell (p := ⟨b2, off2 + k * 2 + 1, none⟩) hb2']; exact ci1
              have HQK : Hid ((qItems its).getD k 0 = qOf (its.getD k (0, 0)).1 (its.getD k (0, 0)).2) := getD_map its _ (0, 0) 0 k (by rw [← hln.out]; exact hlt3)
              have HA2 : Hid (a2 = some ⟨b2, off2, none⟩) := ha2
              have HNX : Hid (sumAbs ((qItems its).take (k + 1)) = sumAbs ((qItems its).take k) + ((qItems its).getD k 0).natAbs) := sumAbs_next _ k (by rw [qItems_length, ← hln.out]; exact hlt3)
              clear ha2 ci0 ci1
              generalize (its.getD k (0, 0)).1 = mt at *
              generalize (its.getD k (0, 0)).2 = st at *
              go_wp2_with fail
              refine (bq mt st _ r1 r2 r3 r4).mono ?_
              rintro e wD ⟨rfl, hbD⟩
              have hqb := qOf_bound mt st r1 r2
              obtain ⟨q, hqe⟩ : ∃ q, Hid (q = qOf mt st) := ⟨_, rfl⟩
              rw [← hqe.out] at hqb ⊢
              obtain ⟨hq1, hq2⟩ := hqb
              have hXC := hbun.out.1.1
              have HBD : Hid (BundTo wD wB.heap.size (qItems its) k) := hbun.out.below hbD hXC
              have HBELD : Hid (Below wB.heap.size wB wD) := hbelC.out.trans (hbD.mono (Nat.le_of_lt hXC))
              obtain ⟨d0, d1⟩ := HBD.out.2 k (by rw [qItems_length, ← hln.out]; exact hlt3)
              have df := HBD.out.1.2
              rw [if_neg (by omega)] at d1
              have HST : Hid (BundTo ((wD.setCell ⟨wB.heap.size, k * 2, none⟩ (.int .i64 0)).setCell ⟨wB.heap.size, k * 2 + 1, none⟩ (.int .i64 q)) wB.heap.size (qItems its) (k + 1)) := HBD.out.step (by rw [qItems_length, ← hln.out]; exact hlt3) (by rw [HQK.out, hqe.out])
              have HSQ2 : Hid (sumAbs ((qItems its).take (k + 1)) = sumAbs ((qItems its).take k) + (q.natAbs : Int)) := by show _ = _; rw [HNX.out, HQK.out, hqe.out]
              clear hbD k1 k2 k3 k4 hXC
              by_cases hneg : q < 0
              all_goals
                go_wp2
                go_roundw
                case rel => exact ⟨k + 1, by omega, by go_num, val_int (by rw [HSQ2.out]; omega), (HBELD.out.setCell (p := ⟨wB.heap.size, k * 2, none⟩) (Nat.le_refl _) _).setCell (p := ⟨wB.heap.size, k * 2 + 1, none⟩) (Nat.le_refl _) _, HST.out⟩
                case measure => simp [intOf]; omega
            · have e : k = ln := by omega
              subst e
              have HT : Hid ((qItems its).take k = qItems its) := by rw [hln.out, ← qItems_length]; exact List.take_length
              rw [HT.out]
              rw [HT.out] at hsb
              have HOC : Hid (OptsTo w.heap.size wC wA.heap.size (qRow row) j) := hopt.out.below hbelC.out (Nat.le_refl _)
              obtain ⟨vj, hvj, -⟩ := HOC.out.2 j (by rw [qRow_length, ← hm.out]; exact hlt2)
              have o2 := hvj 2 (by omega)
              have of := HOC.out.1.2.2
              have hjq : Hid ((qRow row).getD j [] = qItems its) := by rw [hie.out]; exact getD_map row _ [] [] j (by rw [← hm.out]; exact hlt2)
              have HBUN : Hid (BundAt wC wB.heap.size ((qRow row).getD j [])) := by
                rw [hjq.out]
                have := hbun.out
                rw [hln.out, ← qItems_length] at this
                exact this.bund
              have HST : Hid (OptsTo w.heap.size (wC.setCell ⟨wA.heap.size, j * 10 + 2, none⟩ (.slice (some ⟨wB.heap.size, 0, none⟩) k k)) wA.heap.size (qRow row) (j + 1)) :=
                HOC.out.step (by rw [qRow_length, ← hm.out]; exact hlt2) (by rw [hjq.out, qItems_length, ← hln.out]) (by omega) (by omega) hbun.out.1.1 HBUN.out
              have HNX : Hid (lgRow (lg ((qAll R).take i)) ((qRow row).take (j + 1)) = max (lgRow (lg ((qAll R).take i)) ((qRow row).take j)) (sumAbs (qItems its))) := by rw [← hjq.out]; exact lgRow_next _ _ j (by rw [qRow_length, ← hm.out]; exact hlt2)
              have HBEL2 : Hid (Below wA.heap.size wA wC) := hbelB.out.trans (hbelC.out.mono hbelB.out.size)
              clear hvj
              by_cases hgt : lgRow (lg ((qAll R).take i)) ((qRow row).take j) < sumAbs (qItems its)
              all_goals
                go_wp2
                go_roundw
                case rel => exact ⟨j + 1, by omega, by go_num, val_int (by rw [HNX.out]; omega), HBEL2.out.setCell (p := ⟨wA.heap.size, j * 10 + 2, none⟩) (Nat.le_refl _) _, HST.out⟩
                case measure => simp [intOf]; omega
        · have e : j = m := by omega
          subst e
          have HT : Hid ((qRow row).take j = qRow row) := by rw [hm.out, ← qRow_length]; exact List.take_length
          rw [HT.out]
          have hiq : Hid ((qAll R).getD i [] = qRow row) := by rw [hre.out]; exact getD_map R _ [] [] i (by rw [← HN.out]; exact hlt)
          have HKB : Hid (KindsTo wB w.heap.size n (qAll R) i) := hkin.out.below hbelB.out (Nat.le_refl _)
          obtain ⟨vi, hvi⟩ := HKB.out.2.1 i hlt
          have hkf := HKB.out.1.2
          have HST : Hid (KindsTo (wB.setCell ⟨w.heap.size, i * 43 + 15, none⟩ (.slice (some ⟨wA.heap.size, 0, none⟩) j j)) w.heap.size n (qAll R) (i + 1)) :=
            HKB.out.step hlt (by rw [hiq.out, qRow_length, ← hm.out]) (by
              rw [hiq.out, qRow_length, ← hm.out]
              exact hopt.out)
          have HNX : Hid (lg ((qAll R).take (i + 1)) = lgRow (lg ((qAll R).take i)) (qRow row)) := by rw [← hiq.out]; exact lg_next _ i (by rw [qAll_length, ← HN.out]; exact hlt)
          go_wp2
          go_roundw
          case rel => exact ⟨i + 1, by omega, by go_num, val_int HNX.out.symm, HBW.out.setCell (p := ⟨w.heap.size, i * 43 + 15, none⟩) (Nat.le_refl _) _, HST.out⟩
          case measure => simp [intOf]; omega
    · have e : i = n := by omega
      subst e
      have HT : Hid ((qAll R).take i = qAll R) := by rw [HN.out, ← qAll_length]; exact List.take_length
      rw [HT.out]
      have hK : KindsTo wA w.heap.size i (qAll R) (qAll R).length := by rw [qAll_length, ← HN.out]; exact hkin.out
      have HKK : Hid (w.heap.size < wA.heap.size ∧ KindsAt wA w.heap.size (qAll R)) := ⟨hK.1.1, hK.kinds⟩
      clear hK
      go_wp2
      go_ret2
      exact ⟨rfl, hbel.out, HKK.out.1, HKK.out.2⟩

end Go.Proofs.Ybulkluw
