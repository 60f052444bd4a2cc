/-
  Seat b0617aF. zzs0617aexpect (7), by its contract.
-/
import Derived.Test.YbulkltgFmtKeyPath
import Derived.Laws.BytesString
namespace Go.Proofs.YbulkltgFmt
open Go.RowKit

theorem foldl_push (l : List UInt8) : ∀ s : ByteArray, (l.map (fun b : UInt8 => (b.toNat : Int))).foldl (fun r n => r.push (UInt8.ofNat n.toNat)) s = ⟨s.data ++ l.toArray⟩ := by
  induction l with
  | nil => intro s; simp
  | cons x l ih =>
    intro s
    simp only [List.map_cons, List.foldl_cons, Int.toNat_natCast]
    rw [ih]
    apply ByteArray.ext
    simp [ByteArray.push]

/-- string(out), out a row of bytes of the call's own. -/
theorem string_of_own {B : Nat} {w : World} {v : Value} {l : List UInt8} (h : w.ownsRow B 5 1 v l.length (Lib.byteCells l)) : (convert 23 9 v).run Ybaf.prog w = .ok (.string ⟨l.toArray⟩) w := by
  rcases h.2 with ⟨rfl, h0⟩ | ⟨g, cap, cur, rfl, hb, hg, r⟩
  · have : l = [] := List.length_eq_zero_iff.1 h0
    subst this
    rw [run_convert_bytes_string w 23 9 5 none 0 0 Ybaf.underlying23 Ybaf.underlying5 Ybaf.underlying9]
    rfl
  · rw [run_convert_bytes_string w 23 9 5 _ _ _ Ybaf.underlying23 Ybaf.underlying5 Ybaf.underlying9]
    have hl := run_loadCells_list (P := Ybaf.prog) w ⟨g, 0, none⟩ (Lib.byteCells l) (h.cells (g := g) rfl)
    rw [Lib.byteCells_length] at hl
    have e : Lib.byteCells l = (l.map (fun b : UInt8 => (b.toNat : Int))).map (Value.int .u8) := by simp [Lib.byteCells]
    rw [e] at hl
    rw [run_bytesToString w ⟨g, 0, none⟩ l.length cap _ hl, foldl_push]
    simp

theorem own_form {w : World} {B : Nat} {v : Value} {n : Nat} {xs : List Value} (h : w.ownsRow B 5 1 v n xs) : ∃ ao cap, v = .slice ao n cap := by
  rcases h.2 with ⟨rfl, rfl⟩ | ⟨g, cap, cur, rfl, _⟩
  · exact ⟨_, _, rfl⟩
  · exact ⟨_, _, rfl⟩

theorem own_first {w : World} {B : Nat} {v : Value} {l q : List UInt8} (hl : l = []) (h : w.ownsRow B 5 1 v (l.length + q.length) (Lib.byteCells l ++ Lib.byteCells q)) : w.ownsRow B 5 1 v (joinStep l q).length (Lib.byteCells (joinStep l q)) := by
  subst hl
  simpa [joinStep, Lib.byteCells] using h
theorem own_more {w : World} {B : Nat} {v : Value} {l q : List UInt8} (hl : ¬ l = []) (h : w.ownsRow B 5 1 v (l.length + 1 + q.length) (Lib.byteCells l ++ (.int .u8 46) :: Lib.byteCells q)) : w.ownsRow B 5 1 v (joinStep l q).length (Lib.byteCells (joinStep l q)) := by
  have e : joinStep l q = l ++ (46 :: q) := by simp [joinStep, hl]
  have e2 : l.length + 1 + q.length = (l ++ (46 :: q)).length := by simp; omega
  have e3 : Lib.byteCells l ++ (.int .u8 46) :: Lib.byteCells q = Lib.byteCells (l ++ (46 :: q)) := by rw [Lib.byteCells_append]; rfl
  rw [e2, e3] at h
  rw [e]
  exact h

/-- 'append(out, p...)', out a row of bytes of the call's own, p whatever slice of bytes below B. -/
theorem app_bytes {B : Nat} {w : World} {ops : Array Oper} {rest : List Oper} {o : Oper} {a : Act} {Q : Exit → Act → World → Prop} (hgd : o.guard = none) (s x : Operand)
    (ho : o.op = .call { callee := .builtin .append, args := #[s, x], argTypes := #[23, 23] })
    (base : Nat) (v : Value) (n : Nat) (xs : List Value) (hs : a.eval s = v) (hown : w.ownsRow base 5 1 v n xs) (src : Option Addr) (c : Nat) (k : List UInt8) (hx : a.eval x = .slice src k.length c) (hk : BytesAt B w src c k)
    (hlen : n + k.length ≤ 140737488355328) (hbase : base ≤ w.heap.size)
    (h : ∀ v' w', w'.ownsRow base 5 1 v' (n + k.length) (xs ++ Lib.byteCells k) → w.grownBy w' v.ownBlock → wpList Ybaf.prog ops Q rest (a.put o.dst v') w') : wpList Ybaf.prog ops Q (o :: rest) a w := by
  obtain ⟨i0, hi, hz0, hz1, hz2⟩ := info_parts Bld.info5
  cases src with
  | none =>
    obtain ⟨rfl, rfl⟩ := hk.1 rfl
    refine wpList_append_own_none hgd s x 23 ho base 5 i0 1 Ybaf.underlying23 hi v n xs hs hown hx ?_
    exact h v w (by simpa [Lib.byteCells] using hown) ⟨rfl, rfl, rfl, Nat.le_refl _, fun _ _ _ => rfl⟩
  | some ad =>
    refine wpList_append_own _ hgd s x 23 ho base 5 i0 (.int .u8 0) 1 1 Ybaf.underlying23 hi hz0 hz1 hz2 rfl (by decide) v n xs hs hown ad k.length c (Lib.byteCells k) hx (by rw [Lib.byteCells_length]; omega) ?_ ?_ (by unfold maxLen; omega) (by omega) hbase ?_
    · intro j u hu
      simp only [Lib.byteCells, List.getElem?_map, Option.map_eq_some_iff] at hu
      obtain ⟨y, hy, rfl⟩ := hu
      exact (hk.2 ad rfl j y hy).2
    · intro u hu
      simp only [Lib.byteCells, List.mem_map] at hu
      obtain ⟨y, _, rfl⟩ := hu
      rfl
    · exact fun v' w' h1 h2 _ => h v' w' h1 h2

set_option maxHeartbeats 1000000 in
theorem expect_zero (w : World) (la : Option Addr) (lc : Nat) (ka : Option Addr) (kc : Nat) (key : List UInt8) (hkey : key.length ≤ 1024) (hk : BytesAt w.heap.size w ka kc key) :
    Calls Ybaf.prog 7 #[.slice la 0 lc, .slice ka key.length kc] w fun e w' => e = .returned (.string ⟨key.toArray⟩) ∧ Below w.heap.size w w' := by
  go_enter Ybaf.func7, Ybaf.ntmps7
  go_wp2
  refine wp_loop_rounds 2 ?_
  rw [rounds_succ]
  go_wp2_with (at_builtin; refine app_bytes rfl _ _ rfl w.heap.size _ 0 [] rfl (World.ownsRow_nil _ _ _ _) ka kc key rfl hk (by omega) (Nat.le_refl _) ?_)
  intro v' w1 hown hgrow
  have HC : Hid ((convert 23 9 v').run Ybaf.prog w1 = .ok (.string ⟨key.toArray⟩) w1) := string_of_own hown
  have HB : Hid (Below w.heap.size w w1) := (Below.refl _ _).grown hgrow (Nat.le_refl _) (fun k hk => by simp [Value.ownBlock] at hk)
  clear hown hgrow hk
  go_wp2
  rw [rounds_succ]
  have hc := HC.out
  go_wp2
  go_ret
  exact ⟨rfl, HB.out⟩

/-- The levels of a path, the key last. -/
theorem pathTo_le (lv : List (List UInt8)) (key : List UInt8) (k : Nat) (h : k ≤ lv.length) : pathTo (lv ++ [key]) k = pathTo lv k := by
  unfold pathTo
  rw [List.take_append_of_le_length h]
theorem pathTo_end (lv : List (List UInt8)) (key : List UInt8) : pathTo (lv ++ [key]) (lv.length + 1) = joinStep (pathTo lv lv.length) key := by
  rw [pathTo_succ _ _ (by simp), pathTo_le _ _ _ (Nat.le_refl _)]
  simp

set_option maxHeartbeats 1000000 in
theorem expect_some (w : World) (lv : List (List UInt8)) (b off lc : Nat) (ka : Option Addr) (kc : Nat) (key : List UInt8) (hn : lv.length ≤ 256) (hlv : ∀ x ∈ lv, x.length ≤ 1024) (hkey : key.length ≤ 1024)
    (hb : 0 < lv.length → b < w.heap.size) (hrow : ∀ i, i < lv.length → ∃ a c, w.cell? ⟨b, off + i, none⟩ = some (.slice a (lv.getD i []).length c) ∧ BytesAt w.heap.size w a c (lv.getD i [])) (hk : BytesAt w.heap.size w ka kc key) :
    Calls Ybaf.prog 7 #[.slice (some ⟨b, off, none⟩) lv.length lc, .slice ka key.length kc] w fun e w' => e = .returned (.string ⟨(joinStep (pathTo lv lv.length) key).toArray⟩) ∧ Below w.heap.size w w' := by
  obtain ⟨i0, hi, hz0, hz1, hz2⟩ := info_parts Bld.info5
  have HR : Hid (∀ i, i < lv.length → ∃ a c, w.cell? ⟨b, off + i, none⟩ = some (.slice a (lv.getD i []).length c) ∧ BytesAt w.heap.size w a c (lv.getD i [])) := hrow
  have HK : Hid (BytesAt w.heap.size w ka kc key) := hk
  have hlv' : ∀ x ∈ lv ++ [key], x.length ≤ 1024 := by
    intro x hx
    rcases List.mem_append.1 hx with h | h
    · exact hlv x h
    · simp at h; subst h; exact hkey
  have HLV : Hid (∀ x ∈ lv ++ [key], x.length ≤ 1024) := hlv'
  have HEND : Hid (pathTo (lv ++ [key]) (lv.length + 1) = joinStep (pathTo lv lv.length) key) := pathTo_end lv key
  rw [← HEND.out]
  clear hrow hk hlv hlv'
  obtain ⟨ks, HKS⟩ : ∃ ks, Hid (ks = lv ++ [key]) := ⟨_, rfl⟩
  rw [← HKS.out]
  obtain ⟨n, HN⟩ : ∃ n, Hid (n = lv.length) := ⟨_, rfl⟩
  have hn' : n ≤ 256 := by rw [HN.out]; exact hn
  have hb' : 0 < n → b < w.heap.size := by rw [HN.out]; exact hb
  have HE : Hid (∀ i, i < n → ks.getD i [] = lv.getD i []) := fun i hi => by
    rw [HKS.out, List.getD_eq_getElem?_getD, List.getD_eq_getElem?_getD, List.getElem?_append_left (by rw [← HN.out]; exact hi)]
  have HE2 : Hid (ks.getD n [] = key) := by
    show ks.getD n [] = key
    rw [HKS.out, HN.out]; simp
  have HKL : Hid (ks.length = n + 1) := by
    show ks.length = n + 1
    rw [HKS.out, HN.out]; simp
  rw [← HN.out]
  clear hn hb
  -- what each round appends: where the slice lies, and what it reads as
  have HSRC : Hid (∀ i, i < n → ∃ a c, w.cell? ⟨b, off + i, none⟩ = some (.slice a (ks.getD i []).length c) ∧ BytesAt w.heap.size w a c (ks.getD i [])) := fun i hi => by
    rw [HE.out i hi]
    exact HR.out i (by rw [← HN.out]; exact hi)
  have HLEN : Hid (∀ i, i < n + 1 → (ks.getD i []).length ≤ 1024) := fun i hi => by
    rw [List.getD_eq_getElem?_getD, List.getElem?_eq_getElem (show i < ks.length by rw [HKL.out]; exact hi)]
    exact HLV.out _ (by rw [← HKS.out]; exact List.getElem_mem _)
  have HPL : Hid (∀ i, i ≤ n + 1 → (pathTo ks i).length ≤ i * 1025) := fun i hi => pathTo_length ks (by rw [HKS.out]; exact HLV.out) i (by rw [HKL.out]; exact hi)
  have HPS : Hid (∀ i, i < n + 1 → pathTo ks (i + 1) = joinStep (pathTo ks i) (ks.getD i [])) := fun i hi => pathTo_succ ks i (by rw [HKL.out]; exact hi)
  clear HR HLV HEND HE HKL HKS
  go_enter Ybaf.func7, Ybaf.ntmps7
  go_wp2
  go_loopw [5, 6, 7] (fun v i _ wr => ∃ k : Nat, k ≤ n + 1 ∧ i = .int .i64 k ∧ Hid (wr.ownsRow w.heap.size 5 1 v (pathTo ks k).length (Lib.byteCells (pathTo ks k))) ∧ Hid (Below w.heap.size w wr)) (fun _ i _ _ => n + 1 - (intOf i).toNat)
  case atStart => exact ⟨0, Nat.zero_le _, rfl, World.ownsRow_nil _ _ _ _, Below.refl _ _⟩
  case round =>
    obtain ⟨k, hkn, rfl, hown, hbel⟩ := hrel
    have hpl := HPL.out k hkn
    obtain ⟨ao, cap, rfl⟩ := own_form hown.out
    by_cases hlast : k = n + 1
    · subst hlast
      have hc := string_of_own hown.out
      go_wp2
      go_ret
      exact ⟨rfl, hbel.out⟩
    have hql := HLEN.out k (by omega)
    have hps := HPS.out k (by omega)
    have HPSk : Hid (pathTo ks (k + 1) = joinStep (pathTo ks k) (ks.getD k [])) := hps
    clear hps
    by_cases hlt : k < n
    · obtain ⟨a, c, hcell, hby⟩ := HSRC.out k hlt
      have hcell' : wr.cell? ⟨b, off + k, none⟩ = some (.slice a (ks.getD k []).length c) := by rw [hbel.out.cell (p := ⟨b, off + k, none⟩) (hb' (by omega))]; exact hcell
      have HBYW : Hid (BytesAt w.heap.size w a c (ks.getD k [])) := hby
      have HBY : Hid (BytesAt w.heap.size wr a c (ks.getD k [])) := hby.below hbel.out
      clear hcell hby
      generalize ks.getD k [] = q at *
      by_cases hl0 : pathTo ks k = []
      · have e0 : ((pathTo ks k).length : Int) ≤ 0 := by rw [hl0]; simp
        have HL0 : Hid (pathTo ks k = []) := hl0
        clear hl0
        go_wp2_with (at_builtin; refine app_bytes rfl (.tmp 29) (.tmp 30) rfl w.heap.size _ _ _ rfl hown.out a c q rfl HBY.out (by omega) hbel.out.size ?_)
        intro v' w1 hown' hgrow
        have HO1 : Hid (w1.ownsRow w.heap.size 5 1 v' (pathTo ks (k + 1)).length (Lib.byteCells (pathTo ks (k + 1)))) := by
          show w1.ownsRow _ _ _ _ _ _
          rw [HPSk.out]
          exact own_first HL0.out hown'
        have HB1 : Hid (Below w.heap.size w w1) := hbel.out.grown hgrow hbel.out.size (fun j hj => (hown.out.lt j hj).1)
        clear hown' hgrow
        go_wp2
        go_roundw
        case rel => exact ⟨k + 1, by omega, by go_num, HO1, HB1⟩
        case measure => simp [intOf]; omega
      · have hpos : (0 : Int) < ((pathTo ks k).length : Int) := by
          have := List.length_pos_iff.2 hl0
          omega
        have HL0 : Hid (¬ pathTo ks k = []) := hl0
        clear hl0
        have hsz := hbel.out.size
        go_wp2_with (first | (at_builtin; refine wpList_append_own _ rfl (.tmp 26) (.tmp 27) 23 rfl w.heap.size 5 i0 (.int .u8 0) 1 1 Ybaf.underlying23 hi hz0 hz1 hz2 rfl (by decide) _ _ _ rfl (hown.out.alloc _) ⟨wr.heap.size, 0, none⟩ 1 1 [.int .u8 46] rfl rfl (cell_one_new _ _ _) (by intro u hu; simp at hu; subst hu; rfl) (by unfold maxLen; omega) (by omega) (by simp; omega) ?_))
        intro v1 w1 hown1 hgrow1 _
        have HB1 : Hid (Below w.heap.size w w1) := (hbel.out.alloc hsz _).grown hgrow1 (by simp; omega) (fun j hj => (hown.out.lt j hj).1)
        obtain ⟨ao1, cap1, hv1⟩ := own_form hown1
        rw [hv1] at hown1 ⊢
        have HOW1 : Hid (w1.ownsRow w.heap.size 5 1 (.slice ao1 ((pathTo ks k).length + 1) cap1) ((pathTo ks k).length + 1) (Lib.byteCells (pathTo ks k) ++ [.int .u8 46])) := hown1
        have HBY1 : Hid (BytesAt w.heap.size w1 a c q) := HBYW.out.below HB1.out
        clear hown1 hgrow1 hv1
        go_wp2_with (at_builtin; refine app_bytes rfl (.tmp 29) (.tmp 30) rfl w.heap.size _ _ _ rfl HOW1.out a c q rfl HBY1.out (by omega) HB1.out.size ?_)
        intro v' w2 hown' hgrow
        have HO1 : Hid (w2.ownsRow w.heap.size 5 1 v' (pathTo ks (k + 1)).length (Lib.byteCells (pathTo ks (k + 1)))) := by
          show w2.ownsRow _ _ _ _ _ _
          rw [HPSk.out]
          exact own_more HL0.out hown'
        have HB2 : Hid (Below w.heap.size w w2) := HB1.out.grown hgrow HB1.out.size (fun j hj => (HOW1.out.lt j hj).1)
        clear hown' hgrow
        go_wp2
        go_roundw
        case rel => exact ⟨k + 1, by omega, by go_num, HO1, HB2⟩
        case measure => simp [intOf]; omega
    · have e : k = n := by omega
      subst e
      have HBYW : Hid (BytesAt w.heap.size w ka kc (ks.getD k [])) := by rw [HE2.out]; exact HK.out
      have HBY : Hid (BytesAt w.heap.size wr ka kc (ks.getD k [])) := HBYW.out.below hbel.out
      rw [HE2.out] at HBYW HBY HPSk hql
      by_cases hl0 : pathTo ks k = []
      · have e0 : ((pathTo ks k).length : Int) ≤ 0 := by rw [hl0]; simp
        have HL0 : Hid (pathTo ks k = []) := hl0
        clear hl0
        go_wp2_with (at_builtin; refine app_bytes rfl (.tmp 29) (.tmp 30) rfl w.heap.size _ _ _ rfl hown.out ka kc key rfl HBY.out (by omega) hbel.out.size ?_)
        intro v' w1 hown' hgrow
        have HO1 : Hid (w1.ownsRow w.heap.size 5 1 v' (pathTo ks (k + 1)).length (Lib.byteCells (pathTo ks (k + 1)))) := by
          show w1.ownsRow _ _ _ _ _ _
          rw [HPSk.out]
          exact own_first HL0.out hown'
        have HB1 : Hid (Below w.heap.size w w1) := hbel.out.grown hgrow hbel.out.size (fun j hj => (hown.out.lt j hj).1)
        clear hown' hgrow
        go_wp2
        go_roundw
        case rel => exact ⟨k + 1, by omega, by go_num, HO1, HB1⟩
        case measure => simp [intOf]
      · have hpos : (0 : Int) < ((pathTo ks k).length : Int) := by
          have := List.length_pos_iff.2 hl0
          omega
        have HL0 : Hid (¬ pathTo ks k = []) := hl0
        clear hl0
        have hsz := hbel.out.size
        go_wp2_with (first | (at_builtin; refine wpList_append_own _ rfl (.tmp 26) (.tmp 27) 23 rfl w.heap.size 5 i0 (.int .u8 0) 1 1 Ybaf.underlying23 hi hz0 hz1 hz2 rfl (by decide) _ _ _ rfl (hown.out.alloc _) ⟨wr.heap.size, 0, none⟩ 1 1 [.int .u8 46] rfl rfl (cell_one_new _ _ _) (by intro u hu; simp at hu; subst hu; rfl) (by unfold maxLen; omega) (by omega) (by simp; omega) ?_))
        intro v1 w1 hown1 hgrow1 _
        have HB1 : Hid (Below w.heap.size w w1) := (hbel.out.alloc hsz _).grown hgrow1 (by simp; omega) (fun j hj => (hown.out.lt j hj).1)
        obtain ⟨ao1, cap1, hv1⟩ := own_form hown1
        rw [hv1] at hown1 ⊢
        have HOW1 : Hid (w1.ownsRow w.heap.size 5 1 (.slice ao1 ((pathTo ks k).length + 1) cap1) ((pathTo ks k).length + 1) (Lib.byteCells (pathTo ks k) ++ [.int .u8 46])) := hown1
        have HBY1 : Hid (BytesAt w.heap.size w1 ka kc key) := HBYW.out.below HB1.out
        clear hown1 hgrow1 hv1
        go_wp2_with (at_builtin; refine app_bytes rfl (.tmp 29) (.tmp 30) rfl w.heap.size _ _ _ rfl HOW1.out ka kc key rfl HBY1.out (by omega) HB1.out.size ?_)
        intro v' w2 hown' hgrow
        have HO1 : Hid (w2.ownsRow w.heap.size 5 1 v' (pathTo ks (k + 1)).length (Lib.byteCells (pathTo ks (k + 1)))) := by
          show w2.ownsRow _ _ _ _ _ _
          rw [HPSk.out]
          exact own_more HL0.out hown'
        have HB2 : Hid (Below w.heap.size w w2) := HB1.out.grown hgrow HB1.out.size (fun j hj => (HOW1.out.lt j hj).1)
        clear hown' hgrow
        go_wp2
        go_roundw
        case rel => exact ⟨k + 1, by omega, by go_num, HO1, HB2⟩
        case measure => simp [intOf]

end Go.Proofs.YbulkltgFmt
