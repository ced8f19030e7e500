/-
  THE WALKS of syncbb's helpers: (*agent).Handle (16) at a termination message, zzs1952cclone (14), zzs1952cclone64 (15), zzs1952ceq (17), zzs1952ceq64 (18).
-/
import Derived.Test.YbulkankcProg
import Derived.Test.YbulkankcCmpWalks
import Derived.Laws.IdiomCopy
import Derived.Laws.MakeOwn
import Derived.Lib.SliceRun
import Derived.OwnWalk
namespace Go.Proofs.Ybulkankc.Bb
open Go.RowKit Go.Proofs.Ybulkankc.Cmp

theorem as51 (x : Value) (w : World) : (Instr.typeAssert (.iface 42 x) 20 51 true).run Yba.prog w = .ok (.tuple #[.agg #[.slice none 0 0, .int .i64 0, .int .i64 0, .slice none 0 0], .bool false]) w := by kernel_rfl
theorem as53 (x : Value) (w : World) : (Instr.typeAssert (.iface 42 x) 20 53 true).run Yba.prog w = .ok (.tuple #[.agg #[.int .i64 0, .slice none 0 0], .bool false]) w := by kernel_rfl
theorem as42 (x : Value) (w : World) : (Instr.typeAssert (.iface 42 x) 20 42 true).run Yba.prog w = .ok (.tuple #[x, .bool true]) w := by kernel_rfl

/-- The world behind Handle at a termination: the agent's two cells of its incumbent written, two new blocks. -/
def handled (w : World) (A : Nat) (frm c : Int) (v : Value) : World :=
  (((w.setCell ⟨A, 12, none⟩ (.int .i64 c)).setCell ⟨A, 13, none⟩ v).alloc (.cells #[.int .i64 frm, .iface 42 (.agg #[.int .i64 c, v])] 44)).alloc (.cells #[.int .i64 c, v] 42)

set_option maxRecDepth 100000 in
set_option maxHeartbeats 1000000 in
theorem handle_any (A : Nat) (frm c : Int) (a : Option Addr) (n cp : Nat) (w : World) (v12 v13 : Value) (h12 : w.cell? ⟨A, 12, none⟩ = some v12) (h13 : w.cell? ⟨A, 13, none⟩ = some v13)
    (f12 : w.frozen? ⟨A, 12, none⟩ = false) (f13 : w.frozen? ⟨A, 13, none⟩ = false) :
    Calls Yba.prog 16 #[.pointer (some ⟨A, 0, none⟩), .pointer none, .agg #[.int .i64 frm, .iface 42 (.agg #[.int .i64 c, .slice a n cp])]] w fun e w' => e = .returned (.tuple #[]) ∧ w' = handled w A frm c (.slice a n cp) := by
  have hA : A < w.heap.size := by
    rcases Nat.lt_or_ge A w.heap.size with h | h
    · exact h
    · simp [World.cell?, Array.getElem?_eq_none h] at h12
  have k51 := as51
  have k53 := as53
  have k42 := as42
  go_enter Yba.func16, Yba.ntmps16
  go_wp2
  go_end0
  exact ⟨rfl, rfl⟩

/-- The cells of a row of n int64s. -/
def cellsOf (x : Nat → Int) (n : Nat) : List Value := (List.range n).map fun i => .int .i64 (x i)

theorem cellsOf_get (x : Nat → Int) (n j : Nat) (v : Value) (h : (cellsOf x n)[j]? = some v) : j < n ∧ v = .int .i64 (x j) := by
  unfold cellsOf at h
  rw [List.getElem?_map] at h
  rcases Nat.lt_or_ge j n with hj | hj
  · rw [List.getElem?_range hj] at h
    simp at h
    exact ⟨hj, h.symm⟩
  · rw [List.getElem?_eq_none (by simpa using hj)] at h
    simp at h

/-- What a clone is: nil of nil, else its own row with the same numbers. -/
structure Copied (w w' : World) (a a' : Option Addr) (len : Nat) (x : Nat → Int) : Prop where
  nilness : a'.isNone = a.isNone
  row : Row w' a' len x
  below : Below w.heap.size w w'
  own : ∀ ad, a' = some ad → w.heap.size ≤ ad.block

theorem Yba.info3 : (Yba.prog.info? 3).map (fun i => (i.zero, i.size, i.bytes)) = some (some (.int .i64 0), 1, 8) := by kernel_rfl
theorem Yba.info2 : (Yba.prog.info? 2).map (fun i => (i.zero, i.size, i.bytes)) = some (some (.int .i64 0), 1, 8) := by kernel_rfl

theorem madeCells_get (n j : Nat) (h : j < n) : (madeCells #[.int .i64 0] n)[j]? = some (.int .i64 0) := by
  unfold madeCells
  simp [h, Nat.mod_one]

theorem Below.setCells {B : Nat} {a : World} {b : Nat} (hb : B ≤ b) : ∀ (vs : List Value) (o : Nat) (w : World), Below B a w → Below B a (w.setCells b o vs)
  | [], _, _, h => h
  | v :: vs, o, _, h => Below.setCells hb vs (o + 1) _ (h.setCell (p := ⟨b, o, none⟩) hb v)

theorem cellsOf_length (x : Nat → Int) (n : Nat) : (cellsOf x n).length = n := by simp [cellsOf]

/-- The new row behind 'make' and 'copy'. -/
theorem copied_world (w : World) (e : TypeId) (n : Nat) (x : Nat → Int) :
    (∀ j, j < n → ((w.alloc (.cells (madeCells #[.int .i64 0] n) e)).setCells w.heap.size 0 (cellsOf x n)).cell? ⟨w.heap.size, j, none⟩ = some (.int .i64 (x j))) ∧
    Below w.heap.size w ((w.alloc (.cells (madeCells #[.int .i64 0] n) e)).setCells w.heap.size 0 (cellsOf x n)) := by
  refine ⟨fun j hj => ?_, Below.setCells (Nat.le_refl _) _ _ _ ((Below.refl _ _).alloc (Nat.le_refl _) _)⟩
  have h := World.cell?_setCells_in w.heap.size (cellsOf x n) 0 (w.alloc (.cells (madeCells #[.int .i64 0] n) e)) (fun i hi => by
    rw [cellsOf_length] at hi
    rw [World.cell?_alloc_at _ _ _ _ rfl, Nat.zero_add, madeCells_get n i hi]; rfl) j (by rw [cellsOf_length]; exact hj)
  rw [Nat.zero_add] at h
  rw [h]
  simp [cellsOf]

/-- 'copy' into the new row. -/
theorem copy_run (t e : TypeId) (b o len cap : Nat) (x : Nat → Int) (w : World) (ht : Yba.prog.underlying t = some (.slice e)) (hs : (Yba.prog.info? e).map (·.size) = some 1) (hc : ∀ i, i < len → w.cell? ⟨b, o + i, none⟩ = some (.int .i64 (x i))) (ty : TypeId) :
    (Builtin.copy_ #[t, t] ty #[.slice (some ⟨w.heap.size, 0, none⟩) len len, .slice (some ⟨b, o, none⟩) len cap]).run Yba.prog (w.alloc (.cells (madeCells #[.int .i64 0] len) e)) =
      .ok (goInt len) ((w.alloc (.cells (madeCells #[.int .i64 0] len) e)).setCells w.heap.size 0 (cellsOf x len)) := by
  have hlt : 0 < len → b < w.heap.size := fun h0 => by
    rcases Nat.lt_or_ge b w.heap.size with h | h
    · exact h
    · have := hc 0 h0; simp [World.cell?, Array.getElem?_eq_none h] at this
  have h := run_copy_cells (P := Yba.prog) (w.alloc (.cells (madeCells #[.int .i64 0] len) e)) t t ty e w.heap.size 0 len len ⟨b, o, none⟩ len cap (cellsOf x len) ht hs
    (by rw [cellsOf_length]; simp) (fun j v hv => by
      obtain ⟨hj, rfl⟩ := cellsOf_get x len j v hv
      rw [show (⟨b, o, none⟩ : Addr).add j = ⟨b, o + j, none⟩ by simp [Addr.add]]
      rw [World.cell?_alloc_past _ _ _ (hlt (by omega))]
      exact hc j hj)
    (fun j hj => by
      rw [cellsOf_length] at hj
      rw [World.cell?_alloc_at _ _ _ _ rfl, Nat.zero_add, madeCells_get len j hj]; rfl)
    (fun j _ => World.frozen?_alloc_at _ _ _ _ rfl)
    (fun v hv => by
      simp only [cellsOf, List.mem_map] at hv
      obtain ⟨i, _, rfl⟩ := hv
      rfl)
  rw [cellsOf_length] at h
  exact h

theorem Yba.size3 : (Yba.prog.info? 3).map (·.size) = some 1 := by kernel_rfl
theorem Yba.size2 : (Yba.prog.info? 2).map (·.size) = some 1 := by kernel_rfl

set_option maxRecDepth 100000 in
set_option maxHeartbeats 1000000 in
theorem clone_row (b o len cap : Nat) (x : Nat → Int) (w : World) (hl : len ≤ 1024) (hc : ∀ i, i < len → w.cell? ⟨b, o + i, none⟩ = some (.int .i64 (x i))) :
    Calls Yba.prog 14 #[.slice (some ⟨b, o, none⟩) len cap] w fun e w' => ∃ a' c', e = .returned (.slice a' len c') ∧ Copied w w' (some ⟨b, o, none⟩) a' len x := by
  obtain ⟨i0, hi, hz0, hz1, hz2⟩ := info_parts Yba.info3
  have hmk := run_make (P := Yba.prog) w 22 3 i0 (.int .i64 0) Yba.underlying22 hi hz0 .i64 .i64 len len (by omega) (by omega) (by rw [hz2]; omega) (by omega)
  have hnil := Lib.run_eql_slice_nil (P := Yba.prog) w 22 3 (some ⟨b, o, none⟩) len cap 0 0 Yba.underlying22
  have hcp := copy_run 22 3 b o len cap x w Yba.underlying22 Yba.size3 hc
  have HW := hide (copied_world w 3 len x)
  simp only [Value.cells, hz1, Nat.mul_one, Int.toNat_natCast] at hmk
  clear hi hz0 hz1 hz2 hc
  go_enter Yba.func14, Yba.ntmps14
  go_wp2
  go_ret
  exact ⟨some ⟨w.heap.size, 0, none⟩, len, rfl, rfl, .inr ⟨w.heap.size, 0, rfl, fun i hi => by rw [Nat.zero_add]; exact HW.out.1 i hi⟩, HW.out.2, fun ad h => by cases h; exact Nat.le_refl _⟩

set_option maxRecDepth 100000 in
set_option maxHeartbeats 1000000 in
/-- .. of an empty slice that is not nil. -/
theorem clone_empty (ad : Addr) (cap : Nat) (x : Nat → Int) (w : World) :
    Calls Yba.prog 14 #[.slice (some ad) 0 cap] w fun e w' => ∃ a' c', e = .returned (.slice a' 0 c') ∧ Copied w w' (some ad) a' 0 x := by
  obtain ⟨i0, hi, hz0, hz1, hz2⟩ := info_parts Yba.info3
  have hmk := run_make (P := Yba.prog) w 22 3 i0 (.int .i64 0) Yba.underlying22 hi hz0 .i64 .i64 0 0 (by omega) (by omega) (by rw [hz2]; omega) (by omega)
  have hnil := Lib.run_eql_slice_nil (P := Yba.prog) w 22 3 (some ad) 0 cap 0 0 Yba.underlying22
  have hcp := fun wx ty d => run_copy_none (P := Yba.prog) wx 22 22 ty 3 d (some ad) 0 0 0 cap Yba.underlying22 Yba.size3 rfl
  simp only [Value.cells, hz1, Nat.mul_one, Int.toNat_zero] at hmk
  clear hi hz0 hz1 hz2
  go_enter Yba.func14, Yba.ntmps14
  go_wp2
  go_ret
  exact ⟨some ⟨w.heap.size, 0, none⟩, 0, rfl, rfl, .inl rfl, (Below.refl _ _).alloc (Nat.le_refl _) _, fun ad h => by cases h; exact Nat.le_refl _⟩

set_option maxHeartbeats 1000000 in
theorem clone_nil (x : Nat → Int) (w : World) :
    Calls Yba.prog 14 #[.slice none 0 0] w fun e w' => ∃ a' c', e = .returned (.slice a' 0 c') ∧ Copied w w' none a' 0 x := by
  have hnil := Lib.run_eql_slice_nil (P := Yba.prog) w 22 3 none 0 0 0 0 Yba.underlying22
  go_enter Yba.func14, Yba.ntmps14
  go_wp2
  go_ret
  exact ⟨none, 0, rfl, rfl, .inl rfl, Below.refl _ _, fun ad h => by cases h⟩

set_option maxRecDepth 100000 in
set_option maxHeartbeats 1000000 in
theorem clone64_row (b o len cap : Nat) (x : Nat → Int) (w : World) (hl : len ≤ 1024) (hc : ∀ i, i < len → w.cell? ⟨b, o + i, none⟩ = some (.int .i64 (x i))) :
    Calls Yba.prog 15 #[.slice (some ⟨b, o, none⟩) len cap] w fun e w' => ∃ a' c', e = .returned (.slice a' len c') ∧ Copied w w' (some ⟨b, o, none⟩) a' len x := by
  obtain ⟨i0, hi, hz0, hz1, hz2⟩ := info_parts Yba.info2
  have hmk := run_make (P := Yba.prog) w 28 2 i0 (.int .i64 0) Yba.underlying28 hi hz0 .i64 .i64 len len (by omega) (by omega) (by rw [hz2]; omega) (by omega)
  have hnil := Lib.run_eql_slice_nil (P := Yba.prog) w 28 2 (some ⟨b, o, none⟩) len cap 0 0 Yba.underlying28
  have hcp := copy_run 28 2 b o len cap x w Yba.underlying28 Yba.size2 hc
  have HW := hide (copied_world w 2 len x)
  simp only [Value.cells, hz1, Nat.mul_one, Int.toNat_natCast] at hmk
  clear hi hz0 hz1 hz2 hc
  go_enter Yba.func15, Yba.ntmps15
  go_wp2
  go_ret
  exact ⟨some ⟨w.heap.size, 0, none⟩, len, rfl, rfl, .inr ⟨w.heap.size, 0, rfl, fun i hi => by rw [Nat.zero_add]; exact HW.out.1 i hi⟩, HW.out.2, fun ad h => by cases h; exact Nat.le_refl _⟩

set_option maxRecDepth 100000 in
set_option maxHeartbeats 1000000 in
/-- .. of an empty slice that is not nil. -/
theorem clone64_empty (ad : Addr) (cap : Nat) (x : Nat → Int) (w : World) :
    Calls Yba.prog 15 #[.slice (some ad) 0 cap] w fun e w' => ∃ a' c', e = .returned (.slice a' 0 c') ∧ Copied w w' (some ad) a' 0 x := by
  obtain ⟨i0, hi, hz0, hz1, hz2⟩ := info_parts Yba.info2
  have hmk := run_make (P := Yba.prog) w 28 2 i0 (.int .i64 0) Yba.underlying28 hi hz0 .i64 .i64 0 0 (by omega) (by omega) (by rw [hz2]; omega) (by omega)
  have hnil := Lib.run_eql_slice_nil (P := Yba.prog) w 28 2 (some ad) 0 cap 0 0 Yba.underlying28
  have hcp := fun wx ty d => run_copy_none (P := Yba.prog) wx 28 28 ty 2 d (some ad) 0 0 0 cap Yba.underlying28 Yba.size2 rfl
  simp only [Value.cells, hz1, Nat.mul_one, Int.toNat_zero] at hmk
  clear hi hz0 hz1 hz2
  go_enter Yba.func15, Yba.ntmps15
  go_wp2
  go_ret
  exact ⟨some ⟨w.heap.size, 0, none⟩, 0, rfl, rfl, .inl rfl, (Below.refl _ _).alloc (Nat.le_refl _) _, fun ad h => by cases h; exact Nat.le_refl _⟩

set_option maxHeartbeats 1000000 in
theorem clone64_nil (x : Nat → Int) (w : World) :
    Calls Yba.prog 15 #[.slice none 0 0] w fun e w' => ∃ a' c', e = .returned (.slice a' 0 c') ∧ Copied w w' none a' 0 x := by
  have hnil := Lib.run_eql_slice_nil (P := Yba.prog) w 28 2 none 0 0 0 0 Yba.underlying28
  go_enter Yba.func15, Yba.ntmps15
  go_wp2
  go_ret
  exact ⟨none, 0, rfl, rfl, .inl rfl, Below.refl _ _, fun ad h => by cases h⟩

/-- What the walks are told of a slice of ints that came in. -/
def Seen (w : World) (a : Option Addr) (len cap : Nat) (x : Nat → Int) : Prop :=
  (a = none ∧ len = 0 ∧ cap = 0) ∨ (∃ ad, a = some ad ∧ len = 0) ∨ ∃ b o, a = some ⟨b, o, none⟩ ∧ ∀ i, i < len → w.cell? ⟨b, o + i, none⟩ = some (.int .i64 (x i))

theorem Seen.row {w : World} {a : Option Addr} {len cap : Nat} {x : Nat → Int} (h : Seen w a len cap x) : Row w a len x := by
  rcases h with ⟨_, h, _⟩ | ⟨_, _, h⟩ | h
  · exact .inl h
  · exact .inl h
  · exact .inr h

theorem Row.block {w : World} {b o len : Nat} {x : Nat → Int} (h : ∀ i, i < len → w.cell? ⟨b, o + i, none⟩ = some (.int .i64 (x i))) (h0 : 0 < len) : b < w.heap.size := by
  rcases Nat.lt_or_ge b w.heap.size with h' | h'
  · exact h'
  · have := h 0 h0; simp [World.cell?, Array.getElem?_eq_none h'] at this

/-- A row stays as it is where nothing old turns. -/
theorem Row.below {w w' : World} {a : Option Addr} {len : Nat} {x : Nat → Int} (h : Row w a len x) (hb : Below w.heap.size w w') : Row w' a len x := by
  rcases h with h | ⟨b, o, rfl, h⟩
  · exact .inl h
  · by_cases h0 : len = 0
    · exact .inl h0
    · have hlt := Row.block h (by omega)
      exact .inr ⟨b, o, rfl, fun i hi => (hb.cell (p := ⟨b, o + i, none⟩) hlt).trans (h i hi)⟩

theorem Seen.below {w w' : World} {a : Option Addr} {len cap : Nat} {x : Nat → Int} (h : Seen w a len cap x) (hb : Below w.heap.size w w') : Seen w' a len cap x := by
  rcases h with h | h | ⟨b, o, rfl, h⟩
  · exact .inl h
  · exact .inr (.inl h)
  · by_cases h0 : len = 0
    · exact .inr (.inl ⟨_, rfl, h0⟩)
    · have hlt := Row.block h (by omega)
      exact .inr (.inr ⟨b, o, rfl, fun i hi => (hb.cell (p := ⟨b, o + i, none⟩) hlt).trans (h i hi)⟩)

theorem clone_any (a : Option Addr) (len cap : Nat) (x : Nat → Int) (w : World) (hl : len ≤ 1024) (h : Seen w a len cap x) :
    Calls Yba.prog 14 #[.slice a len cap] w fun e w' => ∃ a' c', e = .returned (.slice a' len c') ∧ Copied w w' a a' len x := by
  rcases h with ⟨rfl, rfl, rfl⟩ | ⟨ad, rfl, rfl⟩ | ⟨b, o, rfl, h⟩
  · exact clone_nil x w
  · exact clone_empty ad cap x w
  · exact clone_row b o len cap x w hl h

theorem clone64_any (a : Option Addr) (len cap : Nat) (x : Nat → Int) (w : World) (hl : len ≤ 1024) (h : Seen w a len cap x) :
    Calls Yba.prog 15 #[.slice a len cap] w fun e w' => ∃ a' c', e = .returned (.slice a' len c') ∧ Copied w w' a a' len x := by
  rcases h with ⟨rfl, rfl, rfl⟩ | ⟨ad, rfl, rfl⟩ | ⟨b, o, rfl, h⟩
  · exact clone64_nil x w
  · exact clone64_empty ad cap x w
  · exact clone64_row b o len cap x w hl h

set_option maxRecDepth 100000 in
set_option maxHeartbeats 1000000 in
theorem eq_row (b0 o0 b1 o1 len ca cb : Nat) (x : Nat → Int) (w : World) (hl : len ≤ 1024) (hc0 : ∀ i, i < len → w.cell? ⟨b0, o0 + i, none⟩ = some (.int .i64 (x i))) (hc1 : ∀ i, i < len → w.cell? ⟨b1, o1 + i, none⟩ = some (.int .i64 (x i))) :
    Calls Yba.prog 17 #[.slice (some ⟨b0, o0, none⟩) len ca, .slice (some ⟨b1, o1, none⟩) len cb] w fun e w' => e = .returned (.bool true) ∧ ∃ n, w' = w.drewN n := by
  have hn0 := fun w => Lib.run_eql_slice_nil (P := Yba.prog) w 22 3 (some ⟨b0, o0, none⟩) len ca 0 0 Yba.underlying22
  have hn1 := fun w => Lib.run_eql_slice_nil (P := Yba.prog) w 22 3 (some ⟨b1, o1, none⟩) len cb 0 0 Yba.underlying22
  go_enter Yba.func17, Yba.ntmps17
  go_wp2
  clear hn0 hn1
  go_loopw [5] (fun i wr => ∃ k : Nat, k ≤ len ∧ i = .int .i64 k ∧ ∃ n, wr = w.drewN n) (fun i _ => len - (intOf i).toNat)
  case atStart => exact ⟨0, Nat.zero_le _, rfl, 0, rfl⟩
  case round =>
    obtain ⟨k, hk, rfl, n, rfl⟩ := hrel
    by_cases hlt : k < len
    · have e0 := hc0 k hlt
      have e1 := hc1 k hlt
      have i0 : (k : Int) < (len : Int) := by omega
      have i2 : (x k != x k) = false := by simp
      go_wp2
      go_quiet (fail)
      go_wp2
      go_roundw
      case rel => exact ⟨k + 1, by omega, by go_num, _, rfl⟩
      case measure => simp [intOf]; omega
    · go_wp2
      go_ret
      exact ⟨rfl, _, rfl⟩

set_option maxRecDepth 100000 in
set_option maxHeartbeats 1000000 in
theorem eq_some (d0 d1 : Addr) (ca cb : Nat) (w : World) :
    Calls Yba.prog 17 #[.slice (some d0) 0 ca, .slice (some d1) 0 cb] w fun e w' => e = .returned (.bool true) ∧ ∃ n, w' = w.drewN n := by
  have hn0 := fun w => Lib.run_eql_slice_nil (P := Yba.prog) w 22 3 (some d0) 0 ca 0 0 Yba.underlying22
  have hn1 := fun w => Lib.run_eql_slice_nil (P := Yba.prog) w 22 3 (some d1) 0 cb 0 0 Yba.underlying22
  go_enter Yba.func17, Yba.ntmps17
  go_wp2
  refine wp_loop_rounds 1 ?_
  rw [rounds_succ]
  go_wp2
  go_ret
  exact ⟨rfl, 0, rfl⟩

set_option maxRecDepth 100000 in
set_option maxHeartbeats 1000000 in
theorem eq_nil (ca cb : Nat) (w : World) :
    Calls Yba.prog 17 #[.slice none 0 ca, .slice none 0 cb] w fun e w' => e = .returned (.bool true) ∧ ∃ n, w' = w.drewN n := by
  have hn0 := fun w => Lib.run_eql_slice_nil (P := Yba.prog) w 22 3 none 0 ca 0 0 Yba.underlying22
  have hn1 := fun w => Lib.run_eql_slice_nil (P := Yba.prog) w 22 3 none 0 cb 0 0 Yba.underlying22
  go_enter Yba.func17, Yba.ntmps17
  go_wp2
  refine wp_loop_rounds 1 ?_
  rw [rounds_succ]
  go_wp2
  go_ret
  exact ⟨rfl, 0, rfl⟩

theorem eq_any (a0 a1 : Option Addr) (len ca cb : Nat) (x : Nat → Int) (w : World) (hl : len ≤ 1024) (hn : a0.isNone = a1.isNone) (h0 : Row w a0 len x) (h1 : Row w a1 len x) :
    Calls Yba.prog 17 #[.slice a0 len ca, .slice a1 len cb] w fun e w' => e = .returned (.bool true) ∧ ∃ n, w' = w.drewN n := by
  by_cases hz : len = 0
  · subst hz
    cases a0 <;> cases a1 <;> simp at hn
    · exact eq_nil ca cb w
    · exact eq_some _ _ ca cb w
  · rcases h0 with h0 | ⟨b0, o0, rfl, h0⟩
    · exact absurd h0 hz
    · rcases h1 with h1 | ⟨b1, o1, rfl, h1⟩
      · exact absurd h1 hz
      · exact eq_row b0 o0 b1 o1 len ca cb x w hl h0 h1

set_option maxRecDepth 100000 in
set_option maxHeartbeats 1000000 in
theorem eq64_row (b0 o0 b1 o1 len ca cb : Nat) (x : Nat → Int) (w : World) (hl : len ≤ 1024) (hc0 : ∀ i, i < len → w.cell? ⟨b0, o0 + i, none⟩ = some (.int .i64 (x i))) (hc1 : ∀ i, i < len → w.cell? ⟨b1, o1 + i, none⟩ = some (.int .i64 (x i))) :
    Calls Yba.prog 18 #[.slice (some ⟨b0, o0, none⟩) len ca, .slice (some ⟨b1, o1, none⟩) len cb] w fun e w' => e = .returned (.bool true) ∧ ∃ n, w' = w.drewN n := by
  have hn0 := fun w => Lib.run_eql_slice_nil (P := Yba.prog) w 28 2 (some ⟨b0, o0, none⟩) len ca 0 0 Yba.underlying28
  have hn1 := fun w => Lib.run_eql_slice_nil (P := Yba.prog) w 28 2 (some ⟨b1, o1, none⟩) len cb 0 0 Yba.underlying28
  go_enter Yba.func18, Yba.ntmps18
  go_wp2
  clear hn0 hn1
  go_loopw [5] (fun i wr => ∃ k : Nat, k ≤ len ∧ i = .int .i64 k ∧ ∃ n, wr = w.drewN n) (fun i _ => len - (intOf i).toNat)
  case atStart => exact ⟨0, Nat.zero_le _, rfl, 0, rfl⟩
  case round =>
    obtain ⟨k, hk, rfl, n, rfl⟩ := hrel
    by_cases hlt : k < len
    · have e0 := hc0 k hlt
      have e1 := hc1 k hlt
      have i0 : (k : Int) < (len : Int) := by omega
      have i2 : (x k != x k) = false := by simp
      go_wp2
      go_quiet (fail)
      go_wp2
      go_roundw
      case rel => exact ⟨k + 1, by omega, by go_num, _, rfl⟩
      case measure => simp [intOf]; omega
    · go_wp2
      go_ret
      exact ⟨rfl, _, rfl⟩

set_option maxRecDepth 100000 in
set_option maxHeartbeats 1000000 in
theorem eq64_some (d0 d1 : Addr) (ca cb : Nat) (w : World) :
    Calls Yba.prog 18 #[.slice (some d0) 0 ca, .slice (some d1) 0 cb] w fun e w' => e = .returned (.bool true) ∧ ∃ n, w' = w.drewN n := by
  have hn0 := fun w => Lib.run_eql_slice_nil (P := Yba.prog) w 28 2 (some d0) 0 ca 0 0 Yba.underlying28
  have hn1 := fun w => Lib.run_eql_slice_nil (P := Yba.prog) w 28 2 (some d1) 0 cb 0 0 Yba.underlying28
  go_enter Yba.func18, Yba.ntmps18
  go_wp2
  refine wp_loop_rounds 1 ?_
  rw [rounds_succ]
  go_wp2
  go_ret
  exact ⟨rfl, 0, rfl⟩

set_option maxRecDepth 100000 in
set_option maxHeartbeats 1000000 in
theorem eq64_nil (ca cb : Nat) (w : World) :
    Calls Yba.prog 18 #[.slice none 0 ca, .slice none 0 cb] w fun e w' => e = .returned (.bool true) ∧ ∃ n, w' = w.drewN n := by
  have hn0 := fun w => Lib.run_eql_slice_nil (P := Yba.prog) w 28 2 none 0 ca 0 0 Yba.underlying28
  have hn1 := fun w => Lib.run_eql_slice_nil (P := Yba.prog) w 28 2 none 0 cb 0 0 Yba.underlying28
  go_enter Yba.func18, Yba.ntmps18
  go_wp2
  refine wp_loop_rounds 1 ?_
  rw [rounds_succ]
  go_wp2
  go_ret
  exact ⟨rfl, 0, rfl⟩

theorem eq64_any (a0 a1 : Option Addr) (len ca cb : Nat) (x : Nat → Int) (w : World) (hl : len ≤ 1024) (hn : a0.isNone = a1.isNone) (h0 : Row w a0 len x) (h1 : Row w a1 len x) :
    Calls Yba.prog 18 #[.slice a0 len ca, .slice a1 len cb] w fun e w' => e = .returned (.bool true) ∧ ∃ n, w' = w.drewN n := by
  by_cases hz : len = 0
  · subst hz
    cases a0 <;> cases a1 <;> simp at hn
    · exact eq64_nil ca cb w
    · exact eq64_some _ _ ca cb w
  · rcases h0 with h0 | ⟨b0, o0, rfl, h0⟩
    · exact absurd h0 hz
    · rcases h1 with h1 | ⟨b1, o1, rfl, h1⟩
      · exact absurd h1 hz
      · exact eq64_row b0 o0 b1 o1 len ca cb x w hl h0 h1

/-! ### the world behind Handle -/
theorem handled_size (w : World) (A : Nat) (frm c : Int) (v : Value) : (handled w A frm c v).heap.size = w.heap.size + 2 := by
  simp [handled]

/-- A cell that is none of the two. -/
theorem handled_other (w : World) (A b o : Nat) (frm c : Int) (v : Value) (hb : b < w.heap.size) (hne : b ≠ A ∨ (o ≠ 12 ∧ o ≠ 13)) : (handled w A frm c v).cell? ⟨b, o, none⟩ = w.cell? ⟨b, o, none⟩ := by
  unfold handled
  rw [World.cell?_alloc_past _ _ _ (by simp; omega), World.cell?_alloc_past _ _ _ (by simpa using hb)]
  rw [World.cell?_setCell_other _ _ _ _ (fun e => by cases e; omega), World.cell?_setCell_other _ _ _ _ (fun e => by cases e; omega)]

theorem lt_of_cell {w : World} {A o : Nat} {v : Value} (h : w.cell? ⟨A, o, none⟩ = some v) : A < w.heap.size := by
  rcases Nat.lt_or_ge A w.heap.size with h' | h'
  · exact h'
  · simp [World.cell?, Array.getElem?_eq_none h'] at h

theorem handled_frozen (w : World) (A b o : Nat) (frm c : Int) (v : Value) (hb : b < w.heap.size) : (handled w A frm c v).frozen? ⟨b, o, none⟩ = w.frozen? ⟨b, o, none⟩ := by
  unfold handled
  rw [World.frozen?_alloc_past _ _ _ (by simp; omega), World.frozen?_alloc_past _ _ _ (by simpa using hb), World.frozen?_setCell, World.frozen?_setCell]

theorem handled_12 (w : World) (A : Nat) (frm c : Int) (v v12 : Value) (h : w.cell? ⟨A, 12, none⟩ = some v12) : (handled w A frm c v).cell? ⟨A, 12, none⟩ = some (.int .i64 c) := by
  have hb := lt_of_cell h
  unfold handled
  rw [World.cell?_alloc_past _ _ _ (by simp; omega), World.cell?_alloc_past _ _ _ (by simpa using hb), World.cell?_setCell_other _ _ _ _ (fun e => by cases e)]
  exact World.cell?_setCell_same _ _ _ h
theorem handled_13 (w : World) (A : Nat) (frm c : Int) (v v13 : Value) (h : w.cell? ⟨A, 13, none⟩ = some v13) : (handled w A frm c v).cell? ⟨A, 13, none⟩ = some v := by
  have hb := lt_of_cell h
  unfold handled
  rw [World.cell?_alloc_past _ _ _ (by simp; omega), World.cell?_alloc_past _ _ _ (by simpa using hb)]
  exact World.cell?_setCell_same _ _ _ ((World.cell?_setCell_other _ _ _ _ (fun e => by cases e)).trans h)

theorem handled_below (w : World) (A B : Nat) (frm c : Int) (v : Value) (hA : B ≤ A) (hB : B ≤ w.heap.size) : Below B w (handled w A frm c v) := by
  unfold handled
  exact ((((Below.refl B w).setCell (p := ⟨A, 12, none⟩) hA _).setCell (p := ⟨A, 13, none⟩) hA _).alloc (by simpa using hB) _).alloc (by simp; omega) _

theorem handled_row {w : World} {A : Nat} (frm c : Int) (v : Value) {a : Option Addr} {len : Nat} {x : Nat → Int} (h : Row w a len x) (hne : ∀ ad, a = some ad → ad.block ≠ A) : Row (handled w A frm c v) a len x := by
  rcases h with h | ⟨b, o, rfl, h⟩
  · exact .inl h
  · by_cases h0 : len = 0
    · exact .inl h0
    · have hlt := Row.block h (by omega)
      exact .inr ⟨b, o, rfl, fun i hi => (handled_other w A b (o + i) frm c v hlt (.inl (hne _ rfl))).trans (h i hi)⟩

end Go.Proofs.Ybulkankc.Bb
