/-
  Seat b0620a. zzs0620cbuild (11): the walk.
-/
import Derived.Test.YbulkluwCBuild
namespace Go.Proofs.Ybulkluw
open Go.RowKit
attribute [local go_sem] run_store_float

theorem wrap_in (x : Int) (h1 : -32768 ≤ x) (h2 : x ≤ 32767) : IntKind.i64.wrap x = x := by
  rw [IntKind.wrap_i64]
  omega
theorem heap2 (w : World) (o1 o2 : Obj) : ((w.alloc o1).alloc o2).drew.heap[w.heap.size + 1]? = some o2 := by
  have h := heap_alloc_new (w.alloc o1) o2
  have e : (w.alloc o1).heap.size = w.heap.size + 1 := Array.size_push _
  rw [e] at h
  exact h

def optsObj (v : Value) : Obj := .cells #[.float .f64 0, .float .f64 0, .slice none 0 0, .int .i32 0, .int .i32 0, .int .i32 0, .int .i32 0, .int .i64 0, .int .u8 0, .bool false, .float .f64 0, .float .f64 0, v, .int .i32 0, .int .i32 0, .int .i32 0, .int .i32 0, .int .i64 0, .int .u8 0, .bool false] 46

theorem build_close {w wZ : World} {P : List Int} {I : List (Nat × Int)} {PB : Nat} {a : Option Addr} {l c : Nat} (hB : Below w.heap.size w wZ) (hPF : PfAt wZ PB P) (hl : l = (bL I P.length).length) (hbun : BunAt wZ a (bL I P.length) P.length) (hBB : ∀ BB, a = some ⟨BB, 0, none⟩ → BB < wZ.heap.size) :
    Built w (wZ.alloc (optsObj (.slice a l c))) P I PB wZ.heap.size := by
  subst hl
  have hb : Below wZ.heap.size wZ (wZ.alloc (optsObj (.slice a (bL I P.length).length c))) := (Below.refl _ _).alloc (Nat.le_refl _) _
  have hsz : (wZ.alloc (optsObj (.slice a (bL I P.length).length c))).heap.size = wZ.heap.size + 1 := Array.size_push _
  refine ⟨hB.trans (hb.mono hB.size), hPF.below hb hPF.1, by rw [hsz]; omega, fun k hk => ?_⟩
  have hc := fun o => cell_of_row (wZ.alloc (optsObj (.slice a (bL I P.length).length c))) wZ.heap.size o _ 46 (0, 0) (heap_alloc_new wZ _)
  match k, hk with
  | 0, _ =>
    refine ⟨none, 0, ?_, fun k hk => absurd hk (by simp [Lk]), fun BB h => by cases h⟩
    rw [hc]
    rfl
  | 1, _ =>
    refine ⟨a, c, ?_, ?_, fun BB h => by rw [hsz]; have := hBB BB h; omega⟩
    · rw [hc]
      rfl
    · exact hbun.below hb (Nat.le_refl _)

set_option maxRecDepth 100000 in
set_option maxHeartbeats 4000000 in
theorem cbuild (w : World) (aP aI : Option Addr) (cP cI : Nat) (P : List Int) (I : List (Nat × Int)) (hP : PrAt w aP P) (hI : ItAt w aI I) (n m : Nat) (hn : n = P.length) (hm : m = I.length) (hn2 : n ≤ 1024) (hm2 : m ≤ 1024) :
    Calls Yba.prog 11 #[.slice aP n cP, .slice aI m cI] w fun e w' => BuildPost w w' P I e := by
  have HP : Hid (PrAt w aP P) := hP
  have HI : Hid (ItAt w aI I) := hI
  have HN : Hid (n = P.length) := hn
  have HM : Hid (m = I.length) := hm
  clear hP hI hn hm
  obtain ⟨i1, hi1, hz1, hs1, hb1⟩ := info_parts info37
  obtain ⟨i3, hi3, hz3, hs3, hb3⟩ := info_parts info95
  go_enter Yba.func11, Yba.ntmps11
  go_wp2_with (at_make; refine wpList_make_full _ rfl _ _ 33 rfl w.heap.size 37 i1 (.float .f64 0) 1 Yba.underlying33 hi1 hz1 hs1 .i64 .i64 _ _ n rfl rfl rfl rfl (by rw [hb1]; omega) (by unfold maxLen; omega) (Nat.le_refl _) ?_)
  intro w0 hown0 hgrow0
  obtain ⟨hsz0, hbel0, hcells0, hfr0⟩ := make_facts (z := .float .f64 0) (size := 1) (n := n) (by rw [Nat.mul_one]; exact hown0) hgrow0 rfl
  have HK0 : Hid (PfTo w0 w.heap.size P 0) := ⟨⟨hsz0, hfr0⟩, fun i' hi' => by
    have := hcells0 i' (by rw [HN.out]; exact hi') 0 (by omega)
    rw [if_neg (by omega)]
    rw [Nat.mul_one, Nat.add_zero] at this
    exact this⟩
  have HB0 : Hid (Below w.heap.size w w0) := hbel0
  clear hown0 hgrow0 hsz0 hbel0 hcells0 hfr0
  go_wp2
  go_loopw [18] (fun iv wr => ∃ i : Nat, i ≤ n ∧ iv = .int .i64 i ∧ Hid (Below w.heap.size w wr) ∧ Hid (PfTo wr w.heap.size P i)) (fun iv _ => n - (intOf iv).toNat)
  case atStart => exact ⟨0, Nat.zero_le _, rfl, HB0, HK0⟩
  case round =>
    clear HB0 HK0
    rename World => wA
    obtain ⟨i, hin, rfl, hbel, hpf⟩ := hrel
    by_cases hlt : i < n
    · obtain ⟨b, off, ha, hb, c0, h16⟩ := HP.out i (by rw [← HN.out]; exact hlt)
      have hquo : ∀ t w, (binOp .quo t (.float .f64 (floatOfInt .f64 (P.getD i 0))) (.float .f64 4620693217682128896)).run Yba.prog w = .ok (.float .f64 (pF (P.getD i 0))) w := fun t w => run_float_arith w .quo t .f64 _ _ _ (pF_ok _ h16).1
      obtain ⟨x, HX⟩ : ∃ x, Hid (x = pF (P.getD i 0)) := ⟨_, rfl⟩
      rw [← HX.out] at hquo
      have HST : Hid (PfTo (wA.setCell ⟨w.heap.size, i, none⟩ (.float .f64 x)) w.heap.size P (i + 1)) := hpf.out.step (by rw [← HN.out]; exact hlt) HX.out
      have k0 : wA.cell? ⟨b, off + i, none⟩ = some (.int .i16 (P.getD i 0)) := by rw [hbel.out.cell (p := ⟨b, off + i, none⟩) hb]; exact c0
      have k1 := hpf.out.2 i (by rw [← HN.out]; exact hlt)
      rw [if_neg (by omega)] at k1
      have k2 := hpf.out.1.2 i
      generalize P.getD i 0 = v at *
      subst ha
      clear c0
      go_wp2
      go_roundw
      case rel => exact ⟨i + 1, by omega, by go_num, hbel.out.setCell (p := ⟨w.heap.size, i, none⟩) (Nat.le_refl _) _, HST.out⟩
      case measure => simp [intOf]; omega
    · have e : i = n := by omega
      subst e
      have HPF : Hid (PfAt wA w.heap.size P) := PfTo.done (by rw [← HN.out]; exact hpf.out) (fun j hj => by obtain ⟨_, _, _, _, _, h⟩ := HP.out j hj; exact h)
      have hsz := hbel.out.size
      have HPB : Hid (w.heap.size < wA.heap.size) := hpf.out.1.1
      by_cases hn0 : i = 0
      · subst hn0
        go_wp2
        go_ret2
        have hl : (0 : Nat) = (bL I P.length).length := by rw [← HN.out]; rfl
        have hb0 : BunAt wA none (bL I P.length) P.length := fun k hk => absurd hk (by rw [← hl]; omega)
        exact ⟨w.heap.size, wA.heap.size, by rw [← HN.out]; rfl, build_close (a := none) (c := 0) hbel.out HPF.out hl hb0 (fun BB h => by cases h)⟩
      · have j0 : (0 : Int) < (i : Int) := by omega
        have j1 : ¬ ((i : Int) = 0) := by omega
        go_wp2_with (at_make; refine wpList_make_own _ rfl _ _ 42 rfl wA.heap.size 95 i3 (.agg #[.int .i64 0, .int .i64 0]) 2 Yba.underlying42 hi3 hz3 hs3 .i64 .i64 _ m rfl rfl rfl (by rw [hb3]; omega) (by unfold maxLen; omega) (Nat.le_refl _) ?_)
        intro w1 hown1 hgrow1
        have HOWN1 : Hid (w1.ownsRow wA.heap.size 95 2 (.slice (some ⟨wA.heap.size, 0, none⟩) 0 m) 0 (bc ((bL I i).take 0))) := hown1
        have HB1 : Hid (Below wA.heap.size wA w1) := (Below.refl _ _).grown hgrow1 (Nat.le_refl _) (fun k hk => by cases hk)
        clear hown1 hgrow1
        go_wp2
        go_loopw [9, 38] (fun bv kv wr => ∃ k : Nat, k ≤ m ∧ kv = .int .i64 k ∧ Hid (Below wA.heap.size wA wr) ∧ Hid (wr.ownsRow wA.heap.size 95 2 bv k (bc ((bL I i).take k)))) (fun _ kv _ => m - (intOf kv).toNat)
        case atStart => exact ⟨0, Nat.zero_le _, rfl, HB1, HOWN1⟩
        case round =>
          clear HB1 HOWN1
          rename World => wB
          obtain ⟨k, hkm, rfl, hbelB, hown⟩ := hrel
          by_cases hlt2 : k < m
          · obtain ⟨b, off, ha, hb, c0, c1, hp1, hq16⟩ := HI.out k (by rw [← HM.out]; exact hlt2)
            have HBW : Hid (Below w.heap.size w wB) := hbel.out.trans (hbelB.out.mono hsz)
            have HNX : Hid (bc ((bL I i).take (k + 1)) = bc ((bL I i).take k) ++ [.int .i64 ((((I.getD k (0, 0)).1 % i : Nat)) : Int), .int .i64 (I.getD k (0, 0)).2]) := by
              have := bc_next (bL I i) k (by rw [bL_len I i hn0, ← HM.out]; exact hlt2)
              rw [bL_at I i k hn0 (by rw [← HM.out]; exact hlt2)] at this
              exact this
            have k0 : wB.cell? ⟨b, off + k * 2, none⟩ = some (.int .u8 ((I.getD k (0, 0)).1 : Nat)) := by rw [HBW.out.cell (p := ⟨b, off + k * 2, none⟩) hb]; exact c0
            have k1 : wB.cell? ⟨b, off + k * 2 + 1, none⟩ = some (.int .i16 (I.getD k (0, 0)).2) := by rw [HBW.out.cell (p := ⟨b, off + k * 2 + 1, none⟩) hb]; exact c1
            obtain ⟨q1, q2⟩ := hq16
            generalize (I.getD k (0, 0)).1 = p at *
            generalize (I.getD k (0, 0)).2 = q at *
            subst ha
            clear c0 c1
            have hwB := hbelB.out.size
            go_wp2_with fail
            have hne : u9.ownBlock ≠ some wB.heap.size := fun h => by
              have := hown.out.lt _ h
              omega
            have HV : Hid ([Value.int .i64 ((IntKind.i64.wrap (p : Int)).tmod (i : Int)), .int .i64 (IntKind.i64.wrap q)] = [.int .i64 ((p % i : Nat) : Int), .int .i64 q]) := by
              show _ = _
              rw [wrap_in p (by omega) (by omega), wrap_in q (by omega) (by omega)]
              rfl
            have HOL : Hid (∀ g, u9.ownBlock = some g → wA.heap.size ≤ g) := fun g h => (hown.out.lt g h).1
            go_region_held3 (fun w' => w'.cell? ⟨wB.heap.size, 0, none⟩ = some (.int .u8 p) ∧ w'.cell? ⟨wB.heap.size, 1, none⟩ = some (.int .i16 q)) (first | go_keep | (go_split_ands; refine ⟨?_, ?_⟩ <;> (rw [hgrow.cell_far _ (by simp <;> omega) (Ne.symm hne)]; first | assumption | simp [*])))
              ((refine step_append_lies _ (by rfl) _ _ _ (by rfl) wA.heap.size 95 i3 (.agg #[.int .i64 0, .int .i64 0]) 2 16 Yba.underlying42 hi3 hz3 hs3 hb3 rfl (by omega) u9 k (bc ((bL I i).take k)) (by rfl) (((hown.out.alloc _).alloc _).drew) ⟨wB.heap.size + 1, 0, none⟩ 1 1 [.int .i64 ((IntKind.i64.wrap (p : Int)).tmod (i : Int)), .int .i64 (IntKind.i64.wrap q)] (by rfl) (by rfl) (World.news_of_block (cs := #[.int .i64 ((IntKind.i64.wrap (p : Int)).tmod (i : Int)), .int .i64 (IntKind.i64.wrap q)]) (t := 95) (fr := (0, 0)) (heap2 wB _ _)) (by simp [Value.oneCell']) (by omega) (by unfold maxLen; omega) (by omega) (by simp; omega) (wB.heap.size + 1 + 1) (by simp) ?_; intro gg cap wX hown1 hgrow hat hlt1))
            have HOX : Hid (wX.ownsRow wA.heap.size 95 2 (.slice (some ⟨gg, 0, none⟩) (k + 1) cap) (k + 1) (bc ((bL I i).take (k + 1)))) := by
              rw [HNX.out, ← HV.out]
              exact hown1
            have HBX : Hid (Below wA.heap.size wA wX) := Below.grown (((hbelB.out.alloc hwB _).alloc (by simp; omega) _).drew) hgrow (by simp; omega) HOL.out
            clear hown1 hgrow hat hlt1
            go_wp2
            go_roundw
            case rel => exact ⟨k + 1, by omega, by go_num, HBX.out, HOX.out⟩
            case measure => simp [intOf]; omega
          · have e : k = m := by omega
            subst e
            have HT : Hid ((bL I i).take k = bL I i) := by
              show _ = _
              rw [HM.out, ← bL_len I i hn0]; exact List.take_length
            have hOK : ∀ j, j < I.length → Ok16 (I.getD j (0, 0)).2 := fun j hj => by
              obtain ⟨_, _, _, _, _, _, _, h⟩ := HI.out j hj
              exact h
            obtain ⟨aB, cB, hv, hbun, hBB⟩ := bun_of_own hn0 HM.out (by have := hown.out; rw [HT.out] at this; exact this) hOK
            subst hv
            have HBUN : Hid (BunAt wB aB (bL I i) i) := hbun
            have HBBs : Hid (∀ BB, aB = some ⟨BB, 0, none⟩ → wA.heap.size ≤ BB ∧ BB < wB.heap.size) := hBB
            clear hOK hbun hBB hown
            go_wp2
            go_ret2
            have hl : k = (bL I P.length).length := by rw [← HN.out, bL_len I i hn0]; exact HM.out
            refine ⟨w.heap.size, wB.heap.size, by rw [← HN.out]; rfl, build_close (a := aB) (c := cB) (hbel.out.trans (hbelB.out.mono hsz)) (HPF.out.below hbelB.out HPB.out) hl (by rw [← HN.out]; exact HBUN.out) (fun BB h => (HBBs.out BB h).2)⟩

end Go.Proofs.Ybulkluw
