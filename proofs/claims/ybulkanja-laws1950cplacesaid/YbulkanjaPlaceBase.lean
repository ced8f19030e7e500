/-
  THE LEMMAS for the walk of ordering.LawS1950CPlace (4).
-/
import Derived.Test.YbulkanjaPlacePlain
import Derived.Test.YbulkanjaOrders
namespace Go.Proofs.Ybulkanja.Place
open Go.RowKit Go.Maps Go.Proofs.Ybulkanja.MapsF Go.Proofs.Ybulkanja.Orders

/-- What the walks are told of the slice of bytes that came in: where its elements lie, and how an index into it runs. -/
structure Nums (w : World) (a : Option Addr) (len cap b o : Nat) (x : Nat → Int) : Prop where
  cell : ∀ i, i < len → w.cell? ⟨b, o + i, none⟩ = some (.int .u8 (x i))
  idx : ∀ i, i < len → ∀ wx : World, (Instr.indexAt 22 (.slice a len cap) (.int .i64 (i : Int))).run Yba.prog wx = .ok (.pointer (some ⟨b, o + i, none⟩)) wx
  rng : ∀ i, 0 ≤ x i ∧ x i ≤ 255
  lt : 0 < len → b < w.heap.size

theorem Nums.below {w w' : World} {a : Option Addr} {len cap b o : Nat} {x : Nat → Int} (h : Nums w a len cap b o x) (hb : Below w.heap.size w w') : Nums w' a len cap b o x :=
  ⟨fun i hi => (hb.cell (p := ⟨b, o + i, none⟩) (h.lt (by omega))).trans (h.cell i hi), h.idx, h.rng, fun h0 => Nat.lt_of_lt_of_le (h.lt h0) hb.size⟩

theorem ret_bool {a b : Bool} (h : a = b) : Ending.returned (.bool a) = .returned (.bool b) := by rw [h]

theorem has_yes {x : Nat → Int} {k : Int} {len j : Nat} (hj : j < len) (h : (x j == k) = true) : true = hasN x k len := by
  exact ((hasN_iff x k len).2 ⟨j, hj, by simpa using h⟩).symm
theorem has_no {x : Nat → Int} {k : Int} {j : Nat} (h0 : Hid (hasN x k j = false)) (h : (x j == k) = false) : Hid (hasN x k (j + 1) = false) := by
  show hasN x k (j + 1) = false
  simp [hasN, h0.out, h]

set_option maxRecDepth 100000 in
set_option maxHeartbeats 1000000 in
theorem has_any (a : Option Addr) (len cap b o : Nat) (x : Nat → Int) (k : Int) (w : World) (hl : len ≤ 1024) (N : Nums w a len cap b o x) :
    Calls Yba.prog 9 #[.slice a len cap, .int .u64 k] w fun e w' => e = .returned (.bool (hasN x k len)) ∧ w = w' := by
  have HN := hide N
  clear N
  go_enter Yba.func9, Yba.ntmps9
  go_wp2
  go_loop [9] (fun i => ∃ j : Nat, j ≤ len ∧ i = .int .i64 j ∧ Hid (hasN x k j = false)) (fun i => len - (intOf i).toNat)
  case atStart => exact ⟨0, Nat.zero_le _, rfl, hide rfl⟩
  case round =>
    obtain ⟨j, hj, rfl, HF⟩ := hrel
    by_cases hlt : j < len
    · have cj := HN.out.cell j hlt
      have ij := HN.out.idx j hlt
      have j0 : (j : Int) < (len : Int) := by omega
      have xj := HN.out.rng j
      go_wp2
      · go_ret
        exact ⟨ret_bool (has_yes hlt (by assumption)), rfl⟩
      · go_round
        case rel => exact ⟨j + 1, by omega, by go_num, has_no HF (by assumption)⟩
        case measure => simp [intOf]; omega
    · have : j = len := by omega
      subst this
      go_wp2
      go_ret
      exact ⟨ret_bool HF.out.symm, rfl⟩

theorem lt_of_block' {w : World} {b : Nat} {o : Obj} (h : w.heap[b]? = some o) : b < w.heap.size := (Array.getElem?_eq_some_iff.1 h).1

theorem own_form {w : World} {base e size : Nat} {v : Value} {n : Nat} {xs : List Value} (h : w.ownsRow base e size v n xs) : ∃ ao cp, v = .slice ao n cp := by
  obtain ⟨_, ⟨rfl, rfl⟩ | ⟨g, cap, cur, rfl, _⟩⟩ := h
  · exact ⟨_, _, rfl⟩
  · exact ⟨_, _, rfl⟩

/-- Where the packets lie, and how an index into them runs. -/
theorem neq101 (a b : Int) (w : World) : (binOp .neq 101 (.agg #[.int .i64 a, .int .u64 b]) (.agg #[.int .i64 a, .int .u64 b])).run Yba.prog w = .ok (.bool false) w := by
  have e1 : (a == a) = true := by simp
  have e2 : (b == b) = true := by simp
  go_simp

/-- Where the packets lie, and how an index into them runs. -/
theorem own_cells {w : World} {base : Nat} {ao : Option Addr} {cp n : Nat} {xs : List Value} (h : w.ownsRow base 107 17 (.slice ao n cp) n xs) :
    ∃ gg, (∀ j, j < n * 17 → gg < w.heap.size ∧ w.cell? ⟨gg, j, none⟩ = xs[j]?) ∧ ∀ i : Nat, i < n → ∀ wx : World, (Instr.indexAt 87 (.slice ao n cp) (.int .u64 (i : Int))).run Yba.prog wx = .ok (.pointer (some ⟨gg, i * 17, none⟩)) wx := by
  have h' := h
  obtain ⟨_, ⟨h1, h2⟩ | ⟨g, cap, cur, h1, _, hg, _⟩⟩ := h'
  · subst h2
    exact ⟨0, fun j hj => by omega, fun i hi => by omega⟩
  · cases h1
    refine ⟨g, fun j hj => ⟨lt_of_block' hg, h.cellAt j hj⟩, fun i hi wx => ?_⟩
    have hi' : (i : Int) < (n : Int) := by omega
    have hi0 : (0 : Int) ≤ (i : Int) := by omega
    go_simp

/-- The world behind 'held := []map[uint64][]byte{{}, {}, {}}'. -/
def held0 (w : World) : World := (((w.alloc (.map #[] 0)).alloc (.map #[] 0)).alloc (.map #[] 0)).alloc (.cells #[.map (some w.heap.size), .map (some (w.heap.size + 1)), .map (some (w.heap.size + 1 + 1))] 84)

theorem held0_size (w : World) : (held0 w).heap.size = w.heap.size + 4 := by simp [held0]
theorem held0_below (w : World) : Below w.heap.size w (held0 w) :=
  ((((Below.refl _ _).alloc (Nat.le_refl _) _).alloc (by simp) _).alloc (by simp; omega) _).alloc (by simp; omega) _
theorem held0_cell (w : World) (j : Nat) (hj : j < 3) : (held0 w).cell? ⟨w.heap.size + 1 + 1 + 1, j, none⟩ = some (.map (some (w.heap.size + j))) := by
  unfold held0
  rw [World.cell?_alloc_at _ _ _ _ (by simp)]
  match j, hj with
  | 0, _ => rfl
  | 1, _ => rfl
  | 2, _ => rfl
theorem held0_map (w : World) (j : Nat) (hj : j < 3) : (held0 w).heap[w.heap.size + j]? = some (.map #[] 0) := by
  unfold held0
  rw [Below.heap_alloc _ _ _ (by simp; omega)]
  match j, hj with
  | 0, _ => rw [Below.heap_alloc _ _ _ (by simp; omega), Below.heap_alloc _ _ _ (by simp)]; exact heap_alloc_new w _
  | 1, _ =>
    rw [Below.heap_alloc _ _ _ (by simp)]
    have := heap_alloc_new (w.alloc (.map #[] 0)) (.map #[] 0)
    simpa only [World.size_alloc] using this
  | 2, _ =>
    have := heap_alloc_new ((w.alloc (.map #[] 0)).alloc (.map #[] 0)) (.map #[] 0)
    simpa only [World.size_alloc] using this

/-- The new member, as region 14 makes it: in block Pb, its places in map Mb, its placed numbers in row Lb. -/
structure PN (w : World) (B T Hb Pb Lb Mb : Nat) (start given : Int) : Prop where
  cP2 : w.cell? ⟨Pb, 2, none⟩ = some (.iface 86 (.pointer (some ⟨T, 0, none⟩)))
  cP6 : w.cell? ⟨Pb, 6, none⟩ = some (.slice (some ⟨Hb, 0, none⟩) 3 3)
  cP7 : w.cell? ⟨Pb, 7, none⟩ = some (.map (some Mb))
  cP11 : w.cell? ⟨Pb, 11, none⟩ = some (.int .u64 given)
  fP11 : w.frozen? ⟨Pb, 11, none⟩ = false
  cP12 : w.cell? ⟨Pb, 12, none⟩ = some (.slice (some ⟨Lb, 0, none⟩) 3 3)
  hL : w.heap[Lb]? = some (.cells #[.int .u64 start, .int .u64 start, .int .u64 start] 30)
  hM : w.heap[Mb]? = some (.map #[] 0)
  bL : B ≤ Lb
  bM : B ≤ Mb
  bP : B ≤ Pb
  lp : Lb < Pb
  mp : Mb < Pb

theorem PN.lt {w : World} {B T Hb Pb Lb Mb : Nat} {start given : Int} (h : PN w B T Hb Pb Lb Mb start given) : Pb < w.heap.size := World.block_lt_of_cell? w _ h.cP2

theorem PN.mono {w w' : World} {B T Hb Pb Lb Mb : Nat} {start given : Int} (h : PN w B T Hb Pb Lb Mb start given) (hb : Below w.heap.size w w') : PN w' B T Hb Pb Lb Mb start given := by
  have hP := h.lt
  have h1 := h.lp
  have h2 := h.mp
  have c : ∀ o, w'.cell? ⟨Pb, o, none⟩ = w.cell? ⟨Pb, o, none⟩ := fun o => hb.cell (p := ⟨Pb, o, none⟩) hP
  exact ⟨(c _).trans h.cP2, (c _).trans h.cP6, (c _).trans h.cP7, (c _).trans h.cP11, (hb.frozen (p := ⟨Pb, 11, none⟩) hP).trans h.fP11, (c _).trans h.cP12, (hb.block Lb (by omega)).trans h.hL, (hb.block Mb (by omega)).trans h.hM, h.bL, h.bM, h.bP, h.lp, h.mp⟩

def gDst (i : Nat) : Tmp := [61, 62, 63, 64, 65, 66, 67, 68, 69, 70, 71, 72, 73, 74, 75, 16].getD i 0

/-- What each operation of region 14 leaves. -/
def gPost (T Hb : Nat) (start given : Int) (B : Nat) (i : Nat) (v : Value) (w : World) : Prop :=
  match i with
  | 1 => v = .pointer (some ⟨T, 0, none⟩)
  | 2 => v = .iface 86 (.pointer (some ⟨T, 0, none⟩))
  | 3 => v = .slice (some ⟨Hb, 0, none⟩) 3 3
  | 4 => ∃ b, v = .map (some b) ∧ w.heap[b]? = some (.map #[] 0) ∧ B ≤ b
  | 5 => v = .int .u64 start
  | 6 => v = .int .u64 start
  | 7 => v = .int .u64 start
  | 8 => ∃ b, v = .slice (some ⟨b, 0, none⟩) 3 3 ∧ w.heap[b]? = some (.cells #[.int .u64 start, .int .u64 start, .int .u64 start] 30) ∧ B ≤ b
  | 9 => v = .int .u64 given
  | 13 => ∃ Lb Mb m0 m1 m2 o0 o1 o2 d0 d1 d2 e0 e1 e2, v = .agg #[.int .i64 0, .slice m0 m1 m2, .iface 86 (.pointer (some ⟨T, 0, none⟩)), .int .u64 0, .int .i64 0, .slice o0 o1 o2, .slice (some ⟨Hb, 0, none⟩) 3 3, .map (some Mb), .int .u64 0, .int .u64 0, .slice d0 d1 d2, .int .u64 given, .slice (some ⟨Lb, 0, none⟩) 3 3, .bool false, .slice e0 e1 e2] ∧
      w.heap[Mb]? = some (.map #[] 0) ∧ B ≤ Mb ∧ w.heap[Lb]? = some (.cells #[.int .u64 start, .int .u64 start, .int .u64 start] 30) ∧ B ≤ Lb
  | 14 => ∃ Pb Lb Mb, v = .pointer (some ⟨Pb, 0, none⟩) ∧ PN w B T Hb Pb Lb Mb start given
  | 15 => ∃ Pb Lb Mb, v = .pointer (some ⟨Pb, 0, none⟩) ∧ PN w B T Hb Pb Lb Mb start given
  | _ => ∃ a n c, v = .slice a n c

theorem lt_of_block {w : World} {b : Nat} {o : Obj} (h : w.heap[b]? = some o) : b < w.heap.size := (Array.getElem?_eq_some_iff.1 h).1

theorem gPost_mono (T Hb : Nat) (start given : Int) (B : Nat) : ∀ i v w w', gPost T Hb start given B i v w → Below w.heap.size w w' → gPost T Hb start given B i v w' := by
  intro i v w w' h hb
  unfold gPost at h ⊢
  split at h
  all_goals first
    | exact h
    | (obtain ⟨b, h1, h2, h3⟩ := h; exact ⟨b, h1, (hb.block b (lt_of_block h2)).trans h2, h3⟩)
    | (obtain ⟨Pb, Lb, Mb, h1, h2⟩ := h; exact ⟨Pb, Lb, Mb, h1, h2.mono hb⟩)
    | (obtain ⟨Lb, Mb, m0, m1, m2, o0, o1, o2, d0, d1, d2, e0, e1, e2, h1, h2, h3, h4, h5⟩ := h; exact ⟨Lb, Mb, m0, m1, m2, o0, o1, o2, d0, d1, d2, e0, e1, e2, h1, (hb.block Mb (lt_of_block h2)).trans h2, h3, (hb.block Lb (lt_of_block h4)).trans h4, h5⟩)

theorem mk93 (w : World) : ∃ o, (Instr.makeSlice 93 (.int .i64 3) (.int .i64 3)).run Yba.prog w = .ok (.slice (some ⟨w.heap.size, 0, none⟩) 3 3) (w.alloc o) := ⟨.cells #[.bool false, .bool false, .bool false] 4, by kernel_rfl⟩
theorem mk92 (w : World) : ∃ o, (Instr.makeSlice 92 (.int .i64 3) (.int .i64 3)).run Yba.prog w = .ok (.slice (some ⟨w.heap.size, 0, none⟩) 3 3) (w.alloc o) := ⟨.cells #[.int .u64 0, .int .u64 0, .int .u64 0] 30, by kernel_rfl⟩

/-! ### a great body, walked in parts -/
def dropSeq : Nat → Code → Code
  | 0, c => c
  | n + 1, .seq _ y => dropSeq n y
  | _, c => c
/-- The first n statements of c, and r in the place of the rest. -/
def graft : Nat → Code → Code → Code
  | 0, _, r => r
  | n + 1, .seq x y, r => .seq x (graft n y r)
  | _ + 1, c, _ => c
theorem graft_drop : ∀ (n : Nat) (c : Code), graft n c (dropSeq n c) = c
  | 0, _ => rfl
  | n + 1, c => by
    cases c with
    | seq x y => simp only [graft, dropSeq, graft_drop n y]
    | _ => rfl
end Go.Proofs.Ybulkanja.Place
