/-
  THE SHELL OF A PROOF OF 'Rows.LawS1950ASendSaid' ('ordercast.example/ordercast/internal/group.LawS1950ASend'), WRITTEN BY PROGRAM (proof-skeleton.mjs, third state) off the guide's own print for that function. Not trusted: Lean checks it.
  The hole is filled.
-/
import Derived.Test.YbulkanjaRows
import Derived.WalkKit
import Derived.ProofKit
import Derived.OpenShut
import Derived.ShutString
import Derived.ChangeOld
import Derived.Below
import Derived.Test.YbulkanjaSend5
namespace Go.Proofs.Ybulkanja.lawS1950ASend
open Go.ChangeShapes Go.WideShapes Go.ChangeAt Go.RowKit
open Go.ChangeMaps (open_string shut_string)
set_option linter.unusedVariables false

theorem own : ownKnob Yba.prog.godebug = none := by kernel_rfl
theorem laidOut : laidOutB Yba.prog = true := by kernel_rfl

/-- WHAT THE WALK IS TOLD OF A SLICE OF INTEGERS THAT CAME IN: it is nil; or it leads to a row of 'cap' cells, the numbers 'zs' (the first 'len' are its elements, the rest its spare room), each fitting its kind. -/
def IsRow (k : IntKind) (w : World) (a : Option Addr) (len cap : Nat) (zs : List Int) : Prop :=
  (a = none ∧ len = 0 ∧ cap = 0 ∧ zs = []) ∨
  ∃ x, a = some x ∧ len ≤ cap ∧ cap ≤ maxLen ∧ zs.length = cap ∧ (∀ i, i < zs.length → w.cell? (x.add i) = some (.int k (zs.getD i 0))) ∧ ∀ n ∈ zs, (Lit.int k n).wf = true

theorem conv_any (a5 : Option Addr) (len5 cap5 : Nat) (z5 : List Int) (w : World) (w5 : IsRow .u8 w a5 len5 cap5 z5) : ∃ str, ∀ wx, Below w.heap.size w wx → (convert 22 9 (.slice a5 len5 cap5)).run Yba.prog wx = .ok (.string str) wx := by
  rcases w5 with ⟨rfl, rfl, rfl, rfl⟩ | ⟨x, rfl, hlc, _, hz, hcell, _⟩
  · exact ⟨_, fun wx _ => run_convert_bytes_nil wx 22 5 Yba.underlying22 Yba.underlying5 0 0 9 Yba.underlying9⟩
  · refine ⟨(z5.take len5).foldl (fun r n => r.push (UInt8.ofNat n.toNat)) ByteArray.empty, fun wx hb => ?_⟩
    have hl : (loadCells x len5).run Yba.prog wx = .ok ((z5.take len5).map (Value.int .u8)).toArray wx := by
      have h := run_loadCells_list (P := Yba.prog) wx x ((z5.take len5).map (Value.int .u8)) (fun j v hj => by
        have hjl : j < ((z5.take len5).map (Value.int .u8)).length := (List.getElem?_eq_some_iff.1 hj).1
        have hj1 : j < len5 := by simp at hjl; omega
        have hc := hcell j (by omega)
        rw [hb.cell (p := x.add j) (World.block_lt_of_cell? w _ hc), hc]
        simp only [List.getElem?_map, List.getElem?_take, hj1, if_true] at hj
        rw [List.getElem?_eq_getElem (show j < z5.length by omega)] at hj
        simp only [Option.map_some, Option.some.injEq] at hj
        rw [← hj, List.getD_eq_getElem?_getD, List.getElem?_eq_getElem (show j < z5.length by omega)]
        rfl)
      have e : (z5.take len5).length = len5 := by simp; omega
      rw [List.length_map, e] at h
      exact h
    rw [run_convert_bytes_string wx 22 9 5 _ len5 cap5 Yba.underlying22 Yba.underlying5 Yba.underlying9, run_bytesToString wx _ len5 cap5 (z5.take len5) hl]

/-! ### STEP 1: THE WALK: the Go text returns true, AND WRITES NOTHING THAT WAS THERE: 'Below w.heap.size w w'' (Derived/Below.lean: '.refl', '.alloc', '.drew', '.setCell' at a new block, '.trans'). -/
set_option maxRecDepth 100000 in
set_option maxHeartbeats 1000000 in
theorem walk (a0 : Bool) (a1 : Bool) (a2 : Bool) (a3 : Bool) (a4 : Int) (a5 : Option Addr) (len5 cap5 : Nat) (z5 : List Int) (a6 : Bool) (a7 : Int) (a8 : Int) (w : World) (w4 : (Lit.int .u8 a4).wf = true) (w5 : IsRow .u8 w a5 len5 cap5 z5) (w7 : (Lit.int .i64 a7).wf = true) (w8 : (Lit.int .i64 a8).wf = true) :
    Calls Yba.prog 3 #[.bool a0, .bool a1, .bool a2, .bool a3, .int .u8 a4, .slice a5 len5 cap5, .bool a6, .int .i64 a7, .int .i64 a8] w fun e w' => e = .returned (.bool true) ∧ Below w.heap.size w w' := by
  have hr : 0 ≤ a4 ∧ a4 ≤ 255 := by
    simp [Lit.wf, IntKind.min, IntKind.max, IntKind.bits, IntKind.signed] at w4
    omega
  by_cases hl : len5 ≤ 1048576
  · obtain ⟨str, hcv⟩ := conv_any a5 len5 cap5 z5 w w5
    have h1 : 0 ≤ a4.tmod 8 := Int.tmod_nonneg 8 hr.1
    have h2 : a4.tmod 8 < 8 := Int.tmod_lt_of_pos a4 (by decide)
    exact Chan.head a0 a1 a2 a3 a4 a5 len5 cap5 a6 a7 a8 w (a4.tmod 8).toNat (by omega) (by unfold wrap64; omega) hl str (Chan.hide hcv)
  · have hl2 : 1048576 < (len5 : Int) := by omega
    go_enter Yba.func3, Yba.ntmps3
    go_wp2
    go_ret
    exact ⟨rfl, Below.refl _ _⟩

/-! ### THE ROW's STEP: WRITTEN OUT: LEAVE IT -/
set_option maxRecDepth 100000 in
theorem lifted (os : Os) (started : os.Started) (H : Type) (enc : TypeId × Value → H) :
    ReturnsInHanded {} Yba.checked os 3 .any (Rows.lawS1950ASendSpec.pre6 enc Yba.prog Yba.f3 Rows.lawS1950ASendRow.domain false) (Rows.lawS1950ASendSpec.post enc Yba.prog Yba.f3 false true false false) := by
  refine returnsInHanded_of_change (C := Yba.checked) own started (by kernel_rfl) Yba.func3
    (ChangeSpec.witness6 (enc := enc) (C := Yba.checked) false ⟨#[], #[.bool false, .bool false, .bool false, .bool false, .int .u8 0, .slice none 0 0, .bool false, .int .i64 0, .int .i64 0], []⟩ 8 (by kernel_rfl) (by kernel_rfl) (by kernel_rfl) (by kernel_rfl)) ?_
  intro W base args ds gs before hval0 hW hcnd _
  have hval : ∀ (j : Nat) t v, Yba.f3.params[j]? = some t → args[j]? = some v → Value.okWide Yba.prog W .any base t v := hval0
  have hW' := hW
  obtain ⟨p, q, hA0, hV, rfl, hfz, hnd⟩ := hW
  have hA : DataW.TrodAll enc Yba.prog W 0 (fun _ => true) true Yba.f3.params.toList args.toList ds p := hA0
  rw [Yba.params3] at hA hval
  obtain ⟨v0, vs0, d0, ds0, p0, q0, hargs, rfl, rfl, h0, r0⟩ := trodAll_cons hA
  obtain ⟨v1, vs1, d1, ds1, p1, q1, rfl, rfl, rfl, h1, r1⟩ := trodAll_cons r0
  obtain ⟨v2, vs2, d2, ds2, p2, q2, rfl, rfl, rfl, h2, r2⟩ := trodAll_cons r1
  obtain ⟨v3, vs3, d3, ds3, p3, q3, rfl, rfl, rfl, h3, r3⟩ := trodAll_cons r2
  obtain ⟨v4, vs4, d4, ds4, p4, q4, rfl, rfl, rfl, h4, r4⟩ := trodAll_cons r3
  obtain ⟨v5, vs5, d5, ds5, p5, q5, rfl, rfl, rfl, h5, r5⟩ := trodAll_cons r4
  obtain ⟨v6, vs6, d6, ds6, p6, q6, rfl, rfl, rfl, h6, r6⟩ := trodAll_cons r5
  obtain ⟨v7, vs7, d7, ds7, p7, q7, rfl, rfl, rfl, h7, r7⟩ := trodAll_cons r6
  obtain ⟨v8, vs8, d8, ds8, p8, q8, rfl, rfl, rfl, h8, r8⟩ := trodAll_cons r7
  obtain ⟨rfl, rfl, rfl⟩ := trodAll_nil r8
  obtain rfl : args = #[v0, v1, v2, v3, v4, v5, v6, v7, v8] := by cases args; simp_all
  obtain ⟨rfl, rfl⟩ := trodVars_none hV
  obtain ⟨a0, rfl, rfl, rfl⟩ := open_bool Yba.underlying4 (hval 0 4 v0 rfl rfl) h0
  obtain ⟨a1, rfl, rfl, rfl⟩ := open_bool Yba.underlying4 (hval 1 4 v1 rfl rfl) h1
  obtain ⟨a2, rfl, rfl, rfl⟩ := open_bool Yba.underlying4 (hval 2 4 v2 rfl rfl) h2
  obtain ⟨a3, rfl, rfl, rfl⟩ := open_bool Yba.underlying4 (hval 3 4 v3 rfl rfl) h3
  obtain ⟨a4, rfl, rfl, rfl, w4⟩ := open_int Yba.underlying5 (hval 4 5 v4 rfl rfl) h4
  obtain ⟨a5, len5, cap5, rfl⟩ := okWide_slice Yba.underlying22 (hval 5 22 v5 rfl rfl)
  have k5 := h5
  have lt5 : ∀ x ∈ p5, x.block < W.heap.size := by obtain ⟨m, hm⟩ := k5; exact DataW.trod_lt m _ _ _ hm
  obtain ⟨z5, w5⟩ : ∃ zs, IsRow .u8 W a5 len5 cap5 zs := by
    obtain ⟨fuel, hf⟩ := h5
    rcases open_ints Yba.underlying22 Yba.underlying5 (by kernel_rfl) hf with ⟨hcs, _⟩ | ⟨x, l, c, zs, hcs, _, hl, hm, hz, _, hcell, hwz⟩
    · simp [Value.cells] at hcs
      obtain ⟨rfl, rfl, rfl⟩ := hcs
      exact ⟨[], .inl ⟨rfl, rfl, rfl, rfl⟩⟩
    · simp [Value.cells] at hcs
      obtain ⟨rfl, rfl, rfl⟩ := hcs
      exact ⟨zs, .inr ⟨_, rfl, hl, hm, by simpa using hz, hcell, hwz⟩⟩
  obtain ⟨a6, rfl, rfl, rfl⟩ := open_bool Yba.underlying4 (hval 6 4 v6 rfl rfl) h6
  obtain ⟨a7, rfl, rfl, rfl, w7⟩ := open_int Yba.underlying3 (hval 7 3 v7 rfl rfl) h7
  obtain ⟨a8, rfl, rfl, rfl, w8⟩ := open_int Yba.underlying3 (hval 8 3 v8 rfl rfl) h8
  clear hA0 hval0
  refine (walk a0 a1 a2 a3 a4 a5 len5 cap5 z5 a6 a7 a8 W w4 w5 w7 w8).mono fun e W' ⟨he, bel⟩ => ?_
  subst he
  exact ⟨_, rfl, _, _, _, [], _, [], hW', trodAll_mk1 (shut_bool Yba.underlying4 _), (trodAll_cons_mk (shut_bool Yba.underlying4 _) (trodAll_cons_mk (shut_bool Yba.underlying4 _) (trodAll_cons_mk (shut_bool Yba.underlying4 _) (trodAll_cons_mk (shut_bool Yba.underlying4 _) (trodAll_cons_mk (shut_int Yba.underlying5 w4) (trodAll_cons_mk (Below.trod laidOut (by kernel_rfl) (of_decide_eq_true (by kernel_rfl)) k5 bel lt5) (trodAll_cons_mk (shut_bool Yba.underlying4 _) (trodAll_cons_mk (shut_int Yba.underlying3 w7) (trodAll_cons_mk (shut_int Yba.underlying3 w8) trodAll_mk0))))))))), rfl, bel.frame _, fun h => by cases h⟩

theorem over : Rows.lawS1950ASendRow.holds Yba.pinned (OpenSpec.ofChange Rows.lawS1950ASendSpec) :=
  OpenClaim.holds_of_wide 3 Yba.f3 rfl rfl rfl rfl rfl rfl rfl ⟨rfl, rfl, rfl, rfl, rfl⟩ rfl rfl rfl rfl rfl (by kernel_rfl) Yba.func3 (by kernel_rfl)
    (of_decide_eq_true (by kernel_rfl)) (by unfold Func.isWrapper; first | (rw [if_pos (by decide +kernel)]; kernel_rfl) | (rw [if_neg (by decide +kernel)]; exact ⟨rfl, rfl⟩))
    (fun os started H enc _ => lifted os started H enc)

/-- ████ THE STATEMENT ████ -/
theorem proved : Rows.LawS1950ASendSaid := over
#print axioms proved
end Go.Proofs.Ybulkanja.lawS1950ASend
