/-
  THE SHELL OF A PROOF OF 'Rows.LawS1952AAsymSaid' ('example.com/forebound/forebound/afbbjplus.LawS1952AAsym'), WRITTEN BY PROGRAM (proof-skeleton.mjs, third state) off the guide's own print for that function. Not trusted: Lean checks it.
  THE WALK WAS THE HOLE. ALL ELSE IS THE GUIDE's OWN WAY (howto/template/XProofs.lean; Derived/Test/ChunkProofs.lean for 'Below') at this function's number and types: leave it.
-/
import Derived.Test.YbulkankcRows
import Derived.Test.YbulkankcCmpWalks
import Derived.WalkKit
import Derived.ProofKit
import Derived.OpenShut
import Derived.ShutString
import Derived.ChangeOld
import Derived.Below
namespace Go.Proofs.Ybulkankc.lawS1952AAsym
open Go.ChangeShapes Go.WideShapes Go.ChangeAt Go.RowKit
open Go.ChangeMaps (open_string shut_string)
set_option linter.unusedVariables false

theorem own : ownKnob Yba.prog.godebug = none := by kernel_rfl
theorem laidOut : laidOutB Yba.prog = true := by kernel_rfl

/-- WHAT THE WALK IS TOLD OF A SLICE OF INTEGERS THAT CAME IN: it is nil; or it leads to a row of 'cap' cells, the numbers 'zs' (the first 'len' are its elements, the rest its spare room), each fitting its kind. -/
def IsRow (k : IntKind) (w : World) (a : Option Addr) (len cap : Nat) (zs : List Int) : Prop :=
  (a = none ∧ len = 0 ∧ cap = 0 ∧ zs = []) ∨
  ∃ x, a = some x ∧ len ≤ cap ∧ cap ≤ maxLen ∧ zs.length = cap ∧ (∀ i, i < zs.length → w.cell? (x.add i) = some (.int k (zs.getD i 0))) ∧ ∀ n ∈ zs, (Lit.int k n).wf = true

open Go.Proofs.Ybulkankc.Cmp in
theorem row_of {w : World} {a : Option Addr} {len cap : Nat} {zs : List Int} (h : IsRow .i64 w a len cap zs) : Cmp.Row w a len (fun i => zs.getD i 0) ∧ len ≤ cap := by
  rcases h with ⟨_, h, h2, _⟩ | ⟨x, rfl, hl, _, hz, hc, _⟩
  · exact ⟨.inl h, by omega⟩
  · refine ⟨?_, hl⟩
    by_cases h0 : len = 0
    · exact .inl h0
    · obtain ⟨b, off, spot⟩ := x
      have hspot : spot = none := by simpa [Addr.add] using World.cell?_spot (hc 0 (by omega))
      subst hspot
      exact .inr ⟨b, off, rfl, fun i hi => by rw [← add_plain]; exact hc i (by omega)⟩

theorem obs_is (a0 a1 : Option Addr) (la ca lb cb : Nat) (x y : Nat → Int) (w : World) (b : Bool) (hb : Hid (Cmp.obs x y la lb = b)) (hla : la ≤ 1024) (hlb : lb ≤ 1024) (hca : la ≤ ca) (hcb : lb ≤ cb) (h0 : Cmp.Row w a0 la x) (h1 : Cmp.Row w a1 lb y) :
    Calls Yba.prog 9 #[.slice a0 la ca, .slice a1 lb cb] w fun e w' => e = .returned (.bool b) ∧ ∃ n, w' = w.drewN n := by
  rw [← hb.out]
  exact Cmp.obsolete_any a0 a1 la ca lb cb x y w hla hlb hca hcb h0 h1
theorem cmp_is (a0 a1 : Option Addr) (la ca lb cb : Nat) (x y : Nat → Int) (w : World) (c : Int) (hc : Hid (Cmp.cmp x y la lb = c)) (hla : la ≤ 1024) (hlb : lb ≤ 1024) (h0 : Cmp.Row w a0 la x) (h1 : Cmp.Row w a1 lb y) :
    Calls Yba.prog 11 #[.slice a0 la ca, .slice a1 lb cb] w fun e w' => e = .returned (.int .i64 c) ∧ ∃ n, w' = w.drewN n := by
  rw [← hc.out]
  exact Cmp.compare_any a0 a1 la ca lb cb x y w hla hlb h0 h1

/-! ### STEP 1: THE WALK: the Go text returns true, AND WRITES NOTHING THAT WAS THERE: 'Below w.heap.size w w'' (Derived/Below.lean: '.refl', '.alloc', '.drew', '.setCell' at a new block, '.trans'). Open each 'IsRow' by 'rcases' AHEAD of 'go_enter'; part every test ahead of the walk. -/
set_option maxHeartbeats 2000000 in
theorem walk (a0 : Option Addr) (len0 cap0 : Nat) (z0 : List Int) (a1 : Option Addr) (len1 cap1 : Nat) (z1 : List Int) (w : World) (w0 : IsRow .i64 w a0 len0 cap0 z0) (w1 : IsRow .i64 w a1 len1 cap1 z1) :
    Calls Yba.prog 4 #[.slice a0 len0 cap0, .slice a1 len1 cap1] w fun e w' => e = .returned (.bool true) ∧ Below w.heap.size w w' := by
  obtain ⟨r0, c0⟩ := row_of w0
  obtain ⟨r1, c1⟩ := row_of w1
  by_cases h0 : 1024 < len0
  · go_enter Yba.func4, Yba.ntmps4
    go_wp2
    go_ret
    exact ⟨rfl, Below.refl _ _⟩
  by_cases h1 : 1024 < len1
  · go_enter Yba.func4, Yba.ntmps4
    go_wp2
    go_ret
    exact ⟨rfl, Below.refl _ _⟩
  have i0 : (len0 : Int) ≤ 1024 := by omega
  have i1 : (len1 : Int) ≤ 1024 := by omega
  obtain ⟨x, hx⟩ : ∃ x : Nat → Int, x = fun i => z0.getD i 0 := ⟨_, rfl⟩
  obtain ⟨y, hy⟩ : ∃ y : Nat → Int, y = fun i => z1.getD i 0 := ⟨_, rfl⟩
  rw [← hx] at r0
  rw [← hy] at r1
  clear hx hy w0 w1
  have Haa : Hid (Cmp.obs x x len0 len0 = false) := Cmp.obs_self x len0 len0
  have HN := Cmp.hide (Cmp.obs_asym x y len0 len1)
  obtain ⟨ab, Hab⟩ : ∃ ab, Hid (Cmp.obs x y len0 len1 = ab) := ⟨_, rfl⟩
  obtain ⟨ba, Hba⟩ : ∃ ba, Hid (Cmp.obs y x len1 len0 = ba) := ⟨_, rfl⟩
  have hn : ab = false ∨ (ab = true ∧ ba = false) := by
    have := HN.out
    rw [Hab.out, Hba.out] at this
    cases ab <;> cases ba <;> simp_all
  clear HN
  by_cases hl : len0 = len1
  · subst hl
    obtain ⟨c, Hc⟩ : ∃ c, Hid (Cmp.cmp x y len0 len0 = c) := ⟨_, rfl⟩
    have hc : ab = decide (c < 0) := by
      have := Cmp.obs_cmp x y len0
      rw [Hc.out] at this
      exact Hab.out.symm.trans this
    have hcmp := fun w2 (r : Cmp.Row w2 a0 len0 x) (r' : Cmp.Row w2 a1 len0 y) => cmp_is a0 a1 len0 cap0 len0 cap1 x y w2 c Hc (by omega) (by omega) r r'
    have HC := Cmp.hide hcmp
    clear hcmp
    have hll : ((len0 : Int) == (len0 : Int)) = true := by simp
    rcases hn with rfl | ⟨rfl, rfl⟩
    · have hcc : ¬ c < 0 := by simpa using hc
      clear hc
      go_enter Yba.func4, Yba.ntmps4
      go_wp2_with fail
      refine (obs_is a0 a1 len0 cap0 len0 cap1 x y _ false Hab (by omega) (by omega) c0 c1 r0 r1).mono ?_
      rintro e w' ⟨rfl, n, rfl⟩
      go_wp2_with fail
      refine (obs_is a1 a0 len0 cap1 len0 cap0 y x _ ba Hba (by omega) (by omega) c1 c0 (r1.drewN _) (r0.drewN _)).mono ?_
      rintro e w' ⟨rfl, m, rfl⟩
      go_wp2_with fail
      refine (obs_is a0 a0 len0 cap0 len0 cap0 x x _ false Haa (by omega) (by omega) c0 c0 (r0.drewN _) (r0.drewN _)).mono ?_
      rintro e w' ⟨rfl, k, rfl⟩
      go_wp2_with fail
      refine (HC.out _ (r0.drewN _) (r1.drewN _)).mono ?_
      rintro e w' ⟨rfl, j, rfl⟩
      go_wp2
      go_ret
      exact ⟨rfl, Cmp.below_drewN' _ _⟩
    · have hcc : c < 0 := by simpa using hc
      clear hc
      go_enter Yba.func4, Yba.ntmps4
      go_wp2_with fail
      refine (obs_is a0 a1 len0 cap0 len0 cap1 x y _ true Hab (by omega) (by omega) c0 c1 r0 r1).mono ?_
      rintro e w' ⟨rfl, n, rfl⟩
      go_wp2_with fail
      refine (obs_is a1 a0 len0 cap1 len0 cap0 y x _ false Hba (by omega) (by omega) c1 c0 (r1.drewN _) (r0.drewN _)).mono ?_
      rintro e w' ⟨rfl, m, rfl⟩
      go_wp2_with fail
      refine (obs_is a0 a0 len0 cap0 len0 cap0 x x _ false Haa (by omega) (by omega) c0 c0 (r0.drewN _) (r0.drewN _)).mono ?_
      rintro e w' ⟨rfl, k, rfl⟩
      go_wp2_with fail
      refine (HC.out _ (r0.drewN _) (r1.drewN _)).mono ?_
      rintro e w' ⟨rfl, j, rfl⟩
      go_wp2
      go_ret
      exact ⟨rfl, Cmp.below_drewN' _ _⟩
  · have hll : ((len0 : Int) == (len1 : Int)) = false := beq_eq_false_iff_ne.2 (by omega)
    rcases hn with rfl | ⟨rfl, rfl⟩
    · go_enter Yba.func4, Yba.ntmps4
      go_wp2_with fail
      refine (obs_is a0 a1 len0 cap0 len1 cap1 x y _ false Hab (by omega) (by omega) c0 c1 r0 r1).mono ?_
      rintro e w' ⟨rfl, n, rfl⟩
      go_wp2_with fail
      refine (obs_is a1 a0 len1 cap1 len0 cap0 y x _ ba Hba (by omega) (by omega) c1 c0 (r1.drewN _) (r0.drewN _)).mono ?_
      rintro e w' ⟨rfl, m, rfl⟩
      go_wp2_with fail
      refine (obs_is a0 a0 len0 cap0 len0 cap0 x x _ false Haa (by omega) (by omega) c0 c0 (r0.drewN _) (r0.drewN _)).mono ?_
      rintro e w' ⟨rfl, k, rfl⟩
      go_wp2_with fail
      go_ret
      exact ⟨rfl, Cmp.below_drewN' _ _⟩
    · go_enter Yba.func4, Yba.ntmps4
      go_wp2_with fail
      refine (obs_is a0 a1 len0 cap0 len1 cap1 x y _ true Hab (by omega) (by omega) c0 c1 r0 r1).mono ?_
      rintro e w' ⟨rfl, n, rfl⟩
      go_wp2_with fail
      refine (obs_is a1 a0 len1 cap1 len0 cap0 y x _ false Hba (by omega) (by omega) c1 c0 (r1.drewN _) (r0.drewN _)).mono ?_
      rintro e w' ⟨rfl, m, rfl⟩
      go_wp2_with fail
      refine (obs_is a0 a0 len0 cap0 len0 cap0 x x _ false Haa (by omega) (by omega) c0 c0 (r0.drewN _) (r0.drewN _)).mono ?_
      rintro e w' ⟨rfl, k, rfl⟩
      go_wp2_with fail
      go_ret
      exact ⟨rfl, Cmp.below_drewN' _ _⟩

/-! ### THE ROW's STEP: WRITTEN OUT: LEAVE IT -/
set_option maxRecDepth 100000 in
theorem lifted (os : Os) (started : os.Started) (H : Type) (enc : TypeId × Value → H) :
    ReturnsInHanded {} Yba.checked os 4 .any (Rows.lawS1952AAsymSpec.pre6 enc Yba.prog Yba.f4 Rows.lawS1952AAsymRow.domain false) (Rows.lawS1952AAsymSpec.post enc Yba.prog Yba.f4 false true false false) := by
  refine returnsInHanded_of_change (C := Yba.checked) own started (by kernel_rfl) Yba.func4
    (ChangeSpec.witness6 (enc := enc) (C := Yba.checked) false ⟨#[], #[.slice none 0 0, .slice none 0 0], []⟩ 8 (by kernel_rfl) (by kernel_rfl) (by kernel_rfl) (by kernel_rfl)) ?_
  intro W base args ds gs before hval0 hW hcnd _
  have hval : ∀ (j : Nat) t v, Yba.f4.params[j]? = some t → args[j]? = some v → Value.okWide Yba.prog W .any base t v := hval0
  have hW' := hW
  obtain ⟨p, q, hA0, hV, rfl, hfz, hnd⟩ := hW
  have hA : DataW.TrodAll enc Yba.prog W 0 (fun _ => true) true Yba.f4.params.toList args.toList ds p := hA0
  rw [Yba.params4] at hA hval
  obtain ⟨v0, vs0, d0, ds0, p0, q0, hargs, rfl, rfl, h0, r0⟩ := trodAll_cons hA
  obtain ⟨v1, vs1, d1, ds1, p1, q1, rfl, rfl, rfl, h1, r1⟩ := trodAll_cons r0
  obtain ⟨rfl, rfl, rfl⟩ := trodAll_nil r1
  obtain rfl : args = #[v0, v1] := by cases args; simp_all
  obtain ⟨rfl, rfl⟩ := trodVars_none hV
  obtain ⟨a0, len0, cap0, rfl⟩ := okWide_slice Yba.underlying22 (hval 0 22 v0 rfl rfl)
  have k0 := h0
  have lt0 : ∀ x ∈ p0, x.block < W.heap.size := by obtain ⟨m, hm⟩ := k0; exact DataW.trod_lt m _ _ _ hm
  obtain ⟨z0, w0⟩ : ∃ zs, IsRow .i64 W a0 len0 cap0 zs := by
    obtain ⟨fuel, hf⟩ := h0
    rcases open_ints Yba.underlying22 Yba.underlying3 (by kernel_rfl) hf with ⟨hcs, _⟩ | ⟨x, l, c, zs, hcs, _, hl, hm, hz, _, hcell, hwz⟩
    · simp [Value.cells] at hcs
      obtain ⟨rfl, rfl, rfl⟩ := hcs
      exact ⟨[], .inl ⟨rfl, rfl, rfl, rfl⟩⟩
    · simp [Value.cells] at hcs
      obtain ⟨rfl, rfl, rfl⟩ := hcs
      exact ⟨zs, .inr ⟨_, rfl, hl, hm, by simpa using hz, hcell, hwz⟩⟩
  obtain ⟨a1, len1, cap1, rfl⟩ := okWide_slice Yba.underlying22 (hval 1 22 v1 rfl rfl)
  have k1 := h1
  have lt1 : ∀ x ∈ p1, x.block < W.heap.size := by obtain ⟨m, hm⟩ := k1; exact DataW.trod_lt m _ _ _ hm
  obtain ⟨z1, w1⟩ : ∃ zs, IsRow .i64 W a1 len1 cap1 zs := by
    obtain ⟨fuel, hf⟩ := h1
    rcases open_ints Yba.underlying22 Yba.underlying3 (by kernel_rfl) hf with ⟨hcs, _⟩ | ⟨x, l, c, zs, hcs, _, hl, hm, hz, _, hcell, hwz⟩
    · simp [Value.cells] at hcs
      obtain ⟨rfl, rfl, rfl⟩ := hcs
      exact ⟨[], .inl ⟨rfl, rfl, rfl, rfl⟩⟩
    · simp [Value.cells] at hcs
      obtain ⟨rfl, rfl, rfl⟩ := hcs
      exact ⟨zs, .inr ⟨_, rfl, hl, hm, by simpa using hz, hcell, hwz⟩⟩
  clear hA0 hval0
  refine (walk a0 len0 cap0 z0 a1 len1 cap1 z1 W w0 w1).mono fun e W' ⟨he, bel⟩ => ?_
  subst he
  exact ⟨_, rfl, _, _, _, [], _, [], hW', trodAll_mk1 (shut_bool Yba.underlying4 _), (trodAll_cons_mk (Below.trod laidOut (by kernel_rfl) (of_decide_eq_true (by kernel_rfl)) k0 bel lt0) (trodAll_cons_mk (Below.trod laidOut (by kernel_rfl) (of_decide_eq_true (by kernel_rfl)) k1 bel lt1) trodAll_mk0)), rfl, bel.frame _, fun h => by cases h⟩

theorem over : Rows.lawS1952AAsymRow.holds Yba.pinned (OpenSpec.ofChange Rows.lawS1952AAsymSpec) :=
  OpenClaim.holds_of_wide 4 Yba.f4 rfl rfl rfl rfl rfl rfl rfl ⟨rfl, rfl, rfl, rfl, rfl⟩ rfl rfl rfl rfl rfl (by kernel_rfl) Yba.func4 (by kernel_rfl)
    (of_decide_eq_true (by kernel_rfl)) (by unfold Func.isWrapper; first | (rw [if_pos (by decide +kernel)]; kernel_rfl) | (rw [if_neg (by decide +kernel)]; exact ⟨rfl, rfl⟩))
    (fun os started H enc _ => lifted os started H enc)

/-- ████ THE STATEMENT ████ -/
theorem proved : Rows.LawS1952AAsymSaid := over
#print axioms proved
end Go.Proofs.Ybulkankc.lawS1952AAsym
