/-
  Seat b0617aF. THE TOLD CARD OF LawS0617AObjectPath, PROVED. On the road of this law no call of fmt is come to (every open container but the last is an object): fmt's text, told or not, plays no part.
-/
import Derived.Test.YbulkltgFmtCards
import Derived.Test.YbulkltgFmtObjZero
import Derived.ProofKit
import Derived.ShutString
import Derived.OpenShut
import Derived.Deep.Matrix
import Derived.Stop.JoinedAt
import Derived.Stop.JoinedTold
import Derived.SevenToldRow
namespace Go.Proofs.YbulkltgFmt
open Go.ChangeShapes Go.WideShapes Go.ChangeAt Go.RowKit Go.Kit
open Go.Extern.Stop Go.Stop Go.Extern

namespace Obj
theorem own : ownKnob Ybaf.prog.godebug = none := by kernel_rfl
theorem laidOut : laidOutB Ybaf.pinned.checked.prog = true := by kernel_rfl
theorem laidOutP : laidOutB Ybaf.prog = true := by kernel_rfl
theorem stops : Ybaf.pinned.checked.prog.stops = ["fmt.Sprintf", "fmt.errorf"] := by kernel_rfl
theorem stopKnobs : Ybaf.pinned.checked.prog.stopKnobs = [] := by kernel_rfl
theorem quiet (os : Os) : Stop.quiet Ybaf.pinned.checked.prog os := by
  intro k hk
  rw [stopKnobs] at hk
  cases hk

def toBytes (zs : List Int) : List UInt8 := zs.map fun z => UInt8.ofNat z.toNat

theorem byte_back {z : Int} (h : (Lit.int .u8 z).wf = true) : ((UInt8.ofNat z.toNat).toNat : Int) = z := by
  simp [Lit.wf, IntKind.min, IntKind.max, IntKind.signed, IntKind.bits] at h
  simp
  omega

theorem bytesAt_ints {w : World} {A : Option Addr} {L C : Nat} {Z : List Int} (hl : L ≤ C) (hz : Z.length = C) (hwf : ∀ n ∈ Z, (Lit.int .u8 n).wf = true) (hA : A = none → C = 0)
    (hc : ∀ a', A = some a' → ∀ c, c < C → w.cell? (a'.add c) = some (.int .u8 (Z.getD c 0))) : BytesAt w.heap.size w A C (toBytes (Z.take L)) ∧ (toBytes (Z.take L)).length = L := by
  have hlen : (toBytes (Z.take L)).length = L := by simp [toBytes]; omega
  refine ⟨⟨fun h => ?_, fun ad h j x hx => ?_⟩, hlen⟩
  · have h0 := hA h
    exact ⟨List.length_eq_zero_iff.1 (by omega), h0⟩
  · have hj : j < L := by
      have := (List.getElem?_eq_some_iff.1 hx).1
      omega
    have hcell := hc ad h j (by omega)
    have hjz : j < Z.length := by omega
    have hx' : x = UInt8.ofNat (Z[j]).toNat := by
      simp [toBytes, hj, List.getElem?_eq_getElem hjz] at hx
      exact hx.symm
    have hb := World.block_lt_of_cell? w (ad.add j) hcell
    refine ⟨by unfold Addr.add at hb; split at hb <;> exact hb, ?_⟩
    rw [hcell, hx', byte_back (hwf _ (List.getElem_mem _))]
    simp [List.getD_eq_getElem?_getD, List.getElem?_eq_getElem hjz]
end Obj

set_option maxRecDepth 100000 in
theorem object_lifted (os : Os) (started : os.Started) (H : Type) (enc : TypeId × Value → H) :
    ReturnsInTold none {} Ybaf.checked os 3 .any Input.okWide ((OpenSpec.ofChange Rows.lawS0617AObjectPathSpec).preRow enc Ybaf.prog Ybaf.f3 Rows.lawS0617AObjectPathRow.domain false []) (fun F => ((OpenSpec.ofChange Rows.lawS0617AObjectPathSpec).at F).post enc Ybaf.prog Ybaf.f3 false true false false) (aloneAtReturn Ybaf.prog) nothingAlways := by
  refine returnsInTold_of_row (C := Ybaf.checked) (s := OpenSpec.ofChange Rows.lawS0617AObjectPathSpec) (by kernel_rfl) Obj.own started (by kernel_rfl) Ybaf.func3
    (OpenSpec.witness_stopped (enc := enc) (C := Ybaf.checked) false ⟨#[], #[.slice none 0 0, .slice none 0 0, .bool false, .int .i64 0], []⟩ 8 (by kernel_rfl) (by kernel_rfl) (by kernel_rfl) (by kernel_rfl)) ?_
  intro F W base args ds gs before _ hF hval0 hW _ _ _ _ _
  have hval : ∀ (j : Nat) t v, Ybaf.f3.params[j]? = some t → args[j]? = some v → Value.okWide Ybaf.prog W .any base t v := hval0
  have hW' := hW
  obtain ⟨p, q, hA0, hV, rfl, _, _⟩ := hW
  have hA : DataW.TrodAll enc Ybaf.prog W 0 (fun _ => true) true Ybaf.f3.params.toList args.toList ds p := hA0
  rw [Ybaf.params3] at hA hval
  obtain ⟨v0, vs0, d0, ds0, p0, q0, hargs, rfl, rfl, h0, r0⟩ := trodAll_cons hA
  obtain ⟨v1, vs1, d1, ds1, p1, q1, rfl, rfl, rfl, h1, r1⟩ := trodAll_cons r0
  obtain ⟨v2, vs2, d2, ds2, p2, q2, rfl, rfl, rfl, h2, r2⟩ := trodAll_cons r1
  obtain ⟨v3, vs3, d3, ds3, p3, q3, rfl, rfl, rfl, h3, r3⟩ := trodAll_cons r2
  obtain ⟨rfl, rfl, rfl⟩ := trodAll_nil r3
  obtain rfl : args = #[v0, v1, v2, v3] := by cases args; simp_all
  obtain ⟨rfl, rfl⟩ := trodVars_none hV
  have k0 := h0
  have k1 := h1
  have lt0 : ∀ x ∈ p0, x.block < W.heap.size := by obtain ⟨m, hm⟩ := k0; exact DataW.trod_lt m _ _ _ hm
  have lt1 : ∀ x ∈ p1, x.block < W.heap.size := by obtain ⟨m, hm⟩ := k1; exact DataW.trod_lt m _ _ _ hm
  obtain ⟨la, n, lc, rfl⟩ := okWide_slice Ybaf.underlying22 (hval 0 22 v0 rfl rfl)
  obtain ⟨ka, kn, kc, rfl⟩ := okWide_slice Ybaf.underlying23 (hval 1 23 v1 rfl rfl)
  obtain ⟨inner, rfl, rfl, rfl⟩ := open_bool Ybaf.underlying4 (hval 2 4 v2 rfl rfl) h2
  obtain ⟨idx, rfl, rfl, rfl, widx⟩ := open_int Ybaf.underlying3 (hval 3 3 v3 rfl rfl) h3
  clear hA0 hval0
  -- the key
  obtain ⟨key, hkey, hkl⟩ : ∃ key, BytesAt W.heap.size W ka kc key ∧ key.length = kn := by
    obtain ⟨fuel, hf⟩ := h1
    rcases open_ints Ybaf.underlying23 Ybaf.underlying5 Bld.cells5 hf with ⟨hcs, _⟩ | ⟨x, l, c, zs, hcs, _, hl, hm, hz, _, hcell, hwz⟩
    · simp [Value.cells] at hcs
      obtain ⟨rfl, rfl, rfl⟩ := hcs
      exact ⟨[], ⟨fun _ => ⟨rfl, rfl⟩, fun _ hh => by cases hh⟩, rfl⟩
    · simp [Value.cells] at hcs
      obtain ⟨rfl, rfl, rfl⟩ := hcs
      simp only [if_true] at hz
      exact ⟨_, Obj.bytesAt_ints hl hz hwz (fun hh => by cases hh) (fun a' ha c hc => by cases ha; exact hcell c (by rw [hz]; exact hc))⟩
  subst hkl
  have walk : Calls Ybaf.prog 3 #[.slice la n lc, .slice ka key.length kc, .bool inner, .int .i64 idx] W fun e w' => e = .returned (.bool true) ∧ Below W.heap.size W w' := by
    by_cases hn : 256 < n
    · exact object_many la n lc ka _ kc inner idx W hn
    by_cases hk : 1024 < key.length
    · exact object_key la n lc ka _ kc inner idx W (by omega) hk
    by_cases hn0 : n = 0
    · subst hn0
      exact object_zero W la lc ka kc key inner idx (by omega) hkey
    obtain ⟨fuel, hf⟩ := h0
    rcases Deep.open_int_rows Ybaf.underlying22 Ybaf.underlying23 Ybaf.underlying5 (by kernel_rfl) Bld.cells5 hf with ⟨hcs, _⟩ | ⟨a, len, cap, A, L, C, Z, hcs, _, hl, _, _, hrows⟩
    · simp [Value.cells] at hcs
      exact absurd hcs.2.1 hn0
    · simp [Value.cells] at hcs
      obtain ⟨rfl, rfl, rfl⟩ := hcs
      obtain ⟨b, off, spot⟩ := a
      have hspot : spot = none := by simpa [Addr.add] using World.cell?_spot (hrows 0 (by omega)).1
      subst hspot
      have hrow : ∀ r, r < n → W.cell? ⟨b, off + r, none⟩ = some (.slice (A r) (L r) (C r)) ∧ BytesAt W.heap.size W (A r) (C r) (Obj.toBytes ((Z r).take (L r))) ∧ (Obj.toBytes ((Z r).take (L r))).length = L r := fun r hr => by
        obtain ⟨e1, e2, e3, e4, e5, e6, e7⟩ := hrows r (by omega)
        rw [add_plain] at e1
        exact ⟨e1, Obj.bytesAt_ints e2 e4 e5 e6 (fun a' ha => (e7 a' ha).2)⟩
      have hgd : ∀ r, r < n → ((List.range n).map fun r => Obj.toBytes ((Z r).take (L r))).getD r [] = Obj.toBytes ((Z r).take (L r)) := fun r hr => by
        simp [List.getD_eq_getElem?_getD, hr]
      have hlv : ((List.range n).map fun r => Obj.toBytes ((Z r).take (L r))).length = n := by simp
      have M := object_main W ((List.range n).map fun r => Obj.toBytes ((Z r).take (L r))) b off lc ka kc key inner idx (by omega) (by omega)
        (fun _ => by have := World.block_lt_of_cell? W _ (hrow 0 (by omega)).1; exact this)
        (fun r hr => by
          rw [hlv] at hr
          rw [hgd r hr]
          refine ⟨A r, C r, ?_, (hrow r hr).2.1⟩
          rw [(hrow r hr).2.2]
          exact (hrow r hr).1) hkey
      rw [hlv] at M
      exact M
  refine walk.mono fun e W' ⟨he, bel⟩ => ?_
  subst he
  refine ⟨_, rfl, _, _, _, [], p0 ++ (p1 ++ ([] ++ ([] ++ []))), [], hW', ?_, ?_, rfl, bel.frame _, fun h => by cases h⟩
  · exact trodAll_mk1 (shut_bool Ybaf.underlying4 _)
  · exact trodAll_cons_mk (Below.trod Obj.laidOutP (by kernel_rfl) (of_decide_eq_true (by kernel_rfl)) k0 bel lt0) (trodAll_cons_mk (Below.trod Obj.laidOutP (by kernel_rfl) (of_decide_eq_true (by kernel_rfl)) k1 bel lt1) (trodAll_cons_mk (shut_bool Ybaf.underlying4 _) (trodAll_cons_mk (shut_int Ybaf.underlying3 widx) trodAll_mk0)))

theorem object_holds : Rows.LawS0617AObjectPathToldSaid :=
  Claim7.holds_of_told_any 3 Ybaf.f3 "fmt.Sprintf" ["fmt.errorf"] [] _ _ _ (by kernel_rfl) rfl rfl rfl Obj.laidOut (by kernel_rfl) rfl ⟨rfl, rfl, rfl, rfl, rfl, rfl, rfl⟩ rfl rfl (by kernel_rfl) (by kernel_rfl) Ybaf.func3 (by kernel_rfl)
    (of_decide_eq_true (by kernel_rfl)) (of_decide_eq_true (by kernel_rfl)) Obj.stops.symm rfl Obj.stopKnobs.symm (by kernel_rfl)
    (by kernel_rfl) (by kernel_rfl) (by kernel_rfl) (by kernel_rfl) (by kernel_rfl) (by kernel_rfl) (by kernel_rfl) (by kernel_rfl) (by kernel_rfl) rfl (by kernel_rfl) rfl rfl
    rfl rfl
    rfl (by kernel_rfl) (by kernel_rfl) (by kernel_rfl) (by decide) (by kernel_rfl)
    (OpenClaim.moreEntering_of (by kernel_rfl) (by kernel_rfl) (by kernel_rfl) (by kernel_rfl) (by kernel_rfl) (by kernel_rfl) (by kernel_rfl) (by kernel_rfl) (by kernel_rfl) (by kernel_rfl))
    ⟨_, WideRow.started_initial, Obj.quiet _⟩
    (fun os started _ H enc _ => object_lifted os started H enc)

end Go.Proofs.YbulkltgFmt
