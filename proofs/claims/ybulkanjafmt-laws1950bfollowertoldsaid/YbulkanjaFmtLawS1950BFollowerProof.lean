/-
  ordering.LawS1950BFollower: THE TOLD CARD, proved. fmt's text is told by the authors' own function; the road never comes to it.
-/
import Derived.Test.YbulkanjaFmtRows
import Derived.Test.YbulkanjaFmtCards
import Derived.Test.YbulkanjaFmtFolWalk
import Derived.ProofKit
import Derived.OpenShut
import Derived.ChangeOld
import Derived.Carry
import Derived.Deep.SlicePairs
import Derived.ChangeSlices
import Derived.Stop.JoinedAt
import Derived.Stop.JoinedTold
import Derived.SevenToldRow
namespace Go.Proofs.YbulkanjaFmt.lawS1950BFollower
open Go.ChangeShapes Go.WideShapes Go.ChangeAt Go.RowKit Go.Kit Go.Deep
open Go.Extern.Stop Go.Stop Go.Extern
open Go.Proofs.YbulkanjaFmt.Tot

theorem own : ownKnob Ybaf.prog.godebug = none := by kernel_rfl
theorem laidOut : laidOutB Ybaf.pinned.checked.prog = true := by kernel_rfl
theorem stops : Ybaf.pinned.checked.prog.stops = ["fmt.errorf"] := by kernel_rfl
theorem stopKnobs : Ybaf.pinned.checked.prog.stopKnobs = [] := by kernel_rfl
theorem quiet (os : Os) : Stop.quiet Ybaf.pinned.checked.prog os := by
  intro k hk
  rw [stopKnobs] at hk
  cases hk

theorem u8_range {n : Int} (h : (Lit.int .u8 n).wf = true) : 0 ≤ n ∧ n ≤ 255 := by
  simp [Lit.wf, IntKind.min, IntKind.max, IntKind.signed, IntKind.bits] at h
  omega

section
variable {H : Type} {enc : TypeId × Value → H} {w : World} {sp : Nat → Bool} {held : Bool}

/-- The steps, opened. -/
theorem steps_of {a : Option Addr} {len cap : Nat} {d : DataW H} {p : List MemPlace} (h : DataW.Trod enc Ybaf.prog w 0 sp held 23 (.slice a len cap) d p) : ∃ xs ns, Tot.Steps w a len xs ns := by
  obtain ⟨fuel, hf⟩ := h
  rcases open_slice_pairs (t := 23) (e := 36) Ybaf.underlying23 Ybaf.underlying36 (by kernel_rfl) rfl rfl (by kernel_rfl) (by kernel_rfl) hf with ⟨hcs, _⟩ | ⟨x, l, c, m, n, V0, V1, D0, D1, P0, P1, hcs, _, hl, _, hm, _, hcell⟩
  · simp [Value.cells] at hcs
    obtain ⟨rfl, rfl, rfl⟩ := hcs
    exact ⟨fun _ => 0, fun _ => 0, fun k hk => by omega⟩
  · simp [Value.cells] at hcs
    obtain ⟨rfl, rfl, rfl⟩ := hcs
    have hlm : len ≤ m := by rw [hm]; split <;> omega
    have each : ∀ k, k < len → ∃ x0 x1 : Int, V0 k = .int .u8 x0 ∧ V1 k = .int .u8 x1 ∧ 0 ≤ x0 ∧ x0 ≤ 255 ∧ 0 ≤ x1 ∧ x1 ≤ 255 := by
      intro k hk
      obtain ⟨_, _, t0, t1⟩ := hcell k (by omega)
      obtain ⟨x0, e0, _, w0⟩ := DataW.trod_int Ybaf.underlying5 t0
      obtain ⟨x1, e1, _, w1⟩ := DataW.trod_int Ybaf.underlying5 t1
      have r0 := u8_range w0
      have r1 := u8_range w1
      exact ⟨x0, x1, by simpa using e0, by simpa using e1, r0.1, r0.2, r1.1, r1.2⟩
    refine ⟨fun k => intOf (V0 k), fun k => intOf (V1 k), fun k hk => ?_⟩
    obtain ⟨x0, x1, e0, e1, r⟩ := each k hk
    obtain ⟨c0, c1, _, _⟩ := hcell k (by omega)
    obtain ⟨b, off, spot⟩ := x
    have hspot : spot = none := by simpa [Addr.add] using World.cell?_spot (hcell 0 (by omega)).1
    subst hspot
    rw [add_plain, e0] at c0
    rw [add_plain, e1] at c1
    have i0 : intOf (V0 k) = x0 := by rw [e0]; rfl
    have i1 : intOf (V1 k) = x1 := by rw [e1]; rfl
    refine ⟨b, off, rfl, ?_, ?_, ?_⟩
    · show w.cell? _ = some (.int .u8 (intOf (V0 k)))
      rw [i0]
      exact c0
    · show w.cell? _ = some (.int .u8 (intOf (V1 k)))
      rw [i1]
      exact c1
    · show 0 ≤ intOf (V0 k) ∧ intOf (V0 k) ≤ 255 ∧ 0 ≤ intOf (V1 k) ∧ intOf (V1 k) ≤ 255
      rw [i0, i1]
      exact r

/-- The order, opened. -/
theorem bytes_of {a : Option Addr} {len cap : Nat} {d : DataW H} {p : List MemPlace} (h : DataW.Trod enc Ybaf.prog w 0 sp held 40 (.slice a len cap) d p) : ∃ os, Tot.Bytes w a len os := by
  obtain ⟨fuel, hf⟩ := h
  rcases open_ints Ybaf.underlying40 Ybaf.underlying5 (by kernel_rfl) hf with ⟨hcs, _⟩ | ⟨x, l, c, zs, hcs, _, hl, hm, hz, _, hcell, hwz⟩
  · simp [Value.cells] at hcs
    obtain ⟨rfl, rfl, rfl⟩ := hcs
    exact ⟨fun _ => 0, fun k hk => by omega⟩
  · simp [Value.cells] at hcs
    obtain ⟨rfl, rfl, rfl⟩ := hcs
    have hlz : len ≤ zs.length := by rw [hz]; split <;> omega
    refine ⟨fun k => zs.getD k 0, fun k hk => ?_⟩
    obtain ⟨b, off, spot⟩ := x
    have hspot : spot = none := by simpa [Addr.add] using World.cell?_spot (hcell 0 (by omega))
    subst hspot
    have c0 := hcell k (by omega)
    rw [add_plain] at c0
    have hw : (Lit.int .u8 (zs.getD k 0)).wf = true := hwz _ (by rw [List.getD, List.getElem?_eq_getElem (by omega)]; exact List.getElem_mem _)
    have r := u8_range hw
    exact ⟨b, off, rfl, c0, r.1, r.2⟩
end

set_option maxRecDepth 100000 in
set_option maxHeartbeats 1600000 in
theorem lifted (os : Os) (started : os.Started) (H : Type) (enc : TypeId × Value → H) :
    ReturnsInTold none {} Ybaf.checked os 4 .any Input.okWide ((OpenSpec.ofChange Rows.lawS1950BFollowerSpec).preRow enc Ybaf.prog Ybaf.f4 [] false []) (fun F => ((OpenSpec.ofChange Rows.lawS1950BFollowerSpec).at F).post enc Ybaf.prog Ybaf.f4 false Rows.lawS1950BFollowerRow.fresh false false) (aloneAtReturn Ybaf.prog) nothingAlways := by
  refine returnsInTold_of_row (C := Ybaf.checked) (s := OpenSpec.ofChange Rows.lawS1950BFollowerSpec) (by kernel_rfl) own started (by kernel_rfl) Ybaf.func4
    (OpenSpec.witness_stopped (enc := enc) (C := Ybaf.checked) false ⟨#[], #[.int .u8 0, .slice none 0 0, .slice none 0 0], []⟩ 8 (by kernel_rfl) (by kernel_rfl) (by kernel_rfl) (by kernel_rfl)) ?_
  intro F W base0 args ds gs before _ _ hval0 hW _ _ _ _ _
  have hval : ∀ (j : Nat) t v, Ybaf.f4.params[j]? = some t → args[j]? = some v → Value.okWide Ybaf.prog W .any base0 t v := hval0
  have hW' := hW
  obtain ⟨p, q, hA0, hV, rfl, _, _⟩ := hW
  have hA : DataW.TrodAll enc Ybaf.prog W 0 (fun _ => true) true Ybaf.f4.params.toList args.toList ds p := hA0
  rw [Ybaf.params4] at hA hval
  obtain ⟨v0, v1, v2, d0, d1, d2, p0, p1, p2, rfl, rfl, rfl, h0, h1, h2⟩ := trodAll_three hA
  obtain ⟨rfl, rfl⟩ := trodVars_none hV
  obtain ⟨self, rfl, rfl, rfl, ws⟩ := open_int Ybaf.underlying5 (hval 0 5 v0 rfl rfl) h0
  obtain ⟨ao, leno, capo, rfl⟩ := okWide_slice Ybaf.underlying40 (hval 1 40 v1 rfl rfl)
  obtain ⟨a, len, cap, rfl⟩ := okWide_slice Ybaf.underlying23 (hval 2 23 v2 rfl rfl)
  obtain ⟨ord, hor⟩ := bytes_of h1
  obtain ⟨xs, ns, hst⟩ := steps_of h2
  have k1 := h1
  have k2 := h2
  have lt1 : ∀ x ∈ p1, x.block < W.heap.size := by obtain ⟨m, hm⟩ := k1; exact DataW.trod_lt m _ _ _ hm
  have lt2 : ∀ x ∈ p2, x.block < W.heap.size := by obtain ⟨m, hm⟩ := k2; exact DataW.trod_lt m _ _ _ hm
  clear hA0 hval0
  have r := u8_range ws
  refine (fol_walk self ao leno capo ord a len cap xs ns W r.1 r.2 hor hst).mono fun e W' ⟨he, bel⟩ => ?_
  subst he
  refine ⟨_, rfl, _, _, _, [], _, [], hW', trodAll_mk1 (shut_bool Ybaf.underlying4 _), trodAll_cons_mk (shut_int Ybaf.underlying5 ws) (trodAll_cons_mk (Below.trod laidOut (by kernel_rfl) (of_decide_eq_true (by kernel_rfl)) k1 bel lt1) (trodAll_cons_mk (Below.trod laidOut (by kernel_rfl) (of_decide_eq_true (by kernel_rfl)) k2 bel lt2) trodAll_mk0)), rfl, bel.frame _, fun h => by cases h⟩

/-- ████ THE STATEMENT ████ -/
theorem proved : Rows.LawS1950BFollowerToldSaid :=
  Claim7.holds_of_told_any 4 Ybaf.f4 "fmt.errorf" [] [] _ _ _ (by kernel_rfl) rfl rfl rfl laidOut (by kernel_rfl) rfl ⟨rfl, rfl, rfl, rfl, rfl, rfl, rfl⟩ rfl rfl (by kernel_rfl) (by kernel_rfl) Ybaf.func4 (by kernel_rfl)
    (of_decide_eq_true (by kernel_rfl)) (of_decide_eq_true (by kernel_rfl)) stops.symm rfl stopKnobs.symm (by kernel_rfl)
    (by kernel_rfl) (by kernel_rfl) (by kernel_rfl) (by kernel_rfl) (by kernel_rfl) (by kernel_rfl) (by kernel_rfl) (by kernel_rfl) (by kernel_rfl) rfl (by kernel_rfl) rfl rfl
    rfl rfl
    rfl (by kernel_rfl) (by kernel_rfl) (by kernel_rfl) (by decide) (by kernel_rfl)
    (OpenClaim.moreEntering_of (by kernel_rfl) (by kernel_rfl) (by kernel_rfl) (by kernel_rfl) (by kernel_rfl) (by kernel_rfl) (by kernel_rfl) (by kernel_rfl) (by kernel_rfl) (by kernel_rfl))
    ⟨_, WideRow.started_initial, quiet _⟩
    (fun os started _ H enc _ => lifted os started H enc)
#print axioms proved
end Go.Proofs.YbulkanjaFmt.lawS1950BFollower
