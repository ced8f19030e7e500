/-
  THE LAW's OWN MAP: keyed by MessageID.
-/
import Derived.Test.YbulkanjaFmtSame
import Derived.DeepKeys4
namespace Go.Proofs.YbulkanjaFmt.Tot
open Go.RowKit Go.Maps Go.Proofs.YbulkanjaFmt.MapsF

theorem Ybaf.lay : laidOutB Ybaf.prog = true := by kernel_rfl
theorem Ybaf.row38 : (38 : TypeId) < Ybaf.prog.types.size := of_decide_eq_true (by kernel_rfl)
theorem Ybaf.wide38 : (match Ybaf.prog.underlying 38 with | some (.array _ _) | some (.struct _) => true | _ => false) = true := by kernel_rfl
theorem law38 : Keyed Ybaf.prog 38 := Keyed.of_law (deep_law_laid Ybaf.lay (m := 2) (by omega) Ybaf.row38 (by kernel_rfl) Ybaf.wide38)

theorem Ybaf.size_succ : ∃ n, Ybaf.prog.types.size = n + 1 := ⟨_, (Nat.succ_pred_eq_of_pos (Nat.lt_of_le_of_lt (Nat.zero_le _) Ybaf.row38)).symm⟩
theorem Ybaf.cells38 : Ybaf.prog.cellsOf 38 = 2 := by kernel_rfl
theorem Ybaf.cells3 : Ybaf.prog.cellsOf 3 = 1 := by kernel_rfl
theorem Ybaf.cells32 : Ybaf.prog.cellsOf 32 = 1 := by kernel_rfl
theorem keyType38 : Ybaf.prog.keyType 38 = true := by kernel_rfl
theorem key_some (s m : Nat) (hs : s < 3) (hm : m < 18446744073709551616) : ∃ l, keyOf Ybaf.prog 38 (idV s m) = some l := by
  have w1 : (Lit.int .i64 (s : Int)).wf = true := by simp [Lit.wf, IntKind.min, IntKind.max, IntKind.bits, IntKind.signed]; omega
  have w2 : (Lit.int .u64 (m : Int)).wf = true := by simp [Lit.wf, IntKind.min, IntKind.max, IntKind.bits, IntKind.signed]; omega
  have e1 : (idV s m).formed Ybaf.prog 38 = true := by unfold idV; kernel_rfl
  have e2 : (idV s m).cells.toList = [.int .i64 (s : Int), .int .u64 (m : Int)] := by simp [idV, Value.cells]
  unfold keyOf
  rw [Ybaf.underlying38]
  simp only [keyType38, e1, e2]
  obtain ⟨n, hn⟩ := Ybaf.size_succ
  rw [hn]
  simp [Program.keyLits, Ybaf.underlying38, Ybaf.underlying3, Ybaf.underlying32, Ybaf.cells38, Ybaf.cells3, Ybaf.cells32, w1, w2]

/-- The key, as the map's reading knows it. -/
noncomputable def kl (s m : Nat) : Lit := (keyOf Ybaf.prog 38 (idV s m)).getD (.bool false)
theorem key_id (s m : Nat) (hs : s < 3) (hm : m < 18446744073709551616) : keyOf Ybaf.prog 38 (idV s m) = some (kl s m) := by
  obtain ⟨l, hl⟩ := key_some s m hs hm
  unfold kl
  rw [hl]
  rfl
theorem kl_inj (s m s' m' : Nat) (hs : s < 3) (hm : m < 18446744073709551616) (hs' : s' < 3) (hm' : m' < 18446744073709551616) (h : kl s m = kl s' m') : s = s' ∧ m = m' := by
  have := law38.inj (key_id s m hs hm) (h ▸ key_id s' m' hs' hm')
  simp [idV] at this
  omega

/-- A map keyed by MessageID, as a function of sender and number. -/
def MapM (w : World) (b n : Nat) (f : Nat → Nat → Option Value) : Prop := ∃ sz M, MapIs Ybaf.prog w 38 b n sz M ∧ ∀ s m : Nat, s < 3 → m < 18446744073709551616 → M (kl s m) = f s m

theorem MapM.lt {w : World} {b n : Nat} {f : Nat → Nat → Option Value} (h : MapM w b n f) : b < w.heap.size := by
  obtain ⟨_, _, h, _⟩ := h
  exact h.lt
theorem MapM.of_block {w w' : World} {b n : Nat} {f : Nat → Nat → Option Value} (h : MapM w b n f) (hb : w'.heap[b]? = w.heap[b]?) : MapM w' b n f := by
  obtain ⟨sz, M, h, r⟩ := h
  exact ⟨sz, M, h.of_block hb, r⟩
theorem MapM.look {w : World} {b n : Nat} {f : Nat → Nat → Option Value} (h : MapM w b n f) (s m : Nat) (hs : s < 3) (hm : m < 18446744073709551616) :
    (Instr.lookup 31 (.map (some b)) (idV s m) true).run Ybaf.prog w = .ok (.tuple #[(f s m).getD (.int .i64 0), .bool (f s m).isSome]) w := by
  obtain ⟨sz, M, h, r⟩ := h
  have := h.look law38 (t := 31) (e := 3) Ybaf.underlying31 (z := .int .i64 0) (by kernel_rfl) (key_id s m hs hm)
  rw [r s m hs hm] at this
  exact this
def updM (f : Nat → Nat → Option Value) (s m : Nat) (v : Option Value) : Nat → Nat → Option Value := updF f s (updF (f s) m v)
theorem upd_id {M : Lit → Option Value} {f : Nat → Nat → Option Value} (r : ∀ s m : Nat, s < 3 → m < 18446744073709551616 → M (kl s m) = f s m) (s m : Nat) (v : Option Value) (hs : s < 3) (hm : m < 18446744073709551616) (s' m' : Nat) (hs' : s' < 3) (hm' : m' < 18446744073709551616) :
    upd M (kl s m) v (kl s' m') = updM f s m v s' m' := by
  unfold updM updF
  by_cases h : s' = s
  · subst h
    rw [if_pos rfl]
    by_cases h2 : m' = m
    · subst h2
      rw [if_pos rfl, upd_same (law38.key (key_id s' m' hs' hm'))]
    · rw [if_neg h2, upd_other (fun e => h2 (kl_inj _ _ _ _ hs' hm' hs' hm e).2), r s' m' hs' hm']
  · rw [if_neg h, upd_other (fun e => h (kl_inj _ _ _ _ hs' hm' hs hm e).1), r s' m' hs' hm']
theorem MapM.store {w : World} {b n : Nat} {f : Nat → Nat → Option Value} (h : MapM w b n f) (hn : n < maxLen) (s m : Nat) (hs : s < 3) (hm : m < 18446744073709551616) (val : Value) :
    ∃ w', (Instr.mapUpdate 31 (.map (some b)) (idV s m) val).run Ybaf.prog w = .ok () w' ∧ MapM w' b (n + 1) (updM f s m (some val)) ∧ w.mapTurned w' b := by
  obtain ⟨sz, M, h, r⟩ := h
  obtain ⟨w', h1, h2, h3⟩ := h.store law38 (t := 31) (e := 3) Ybaf.underlying31 hn (val := val) (key_id s m hs hm)
  exact ⟨w', h1, ⟨_, _, h2, fun s' m' hs' hm' => upd_id r s m _ hs hm s' m' hs' hm'⟩, h3⟩
theorem MapM.drop {w : World} {b n : Nat} {f : Nat → Nat → Option Value} (h : MapM w b n f) (s m : Nat) (hs : s < 3) (hm : m < 18446744073709551616) (ty : TypeId) :
    ∃ w', (Builtin.delete_ #[31, 38] ty #[.map (some b), idV s m]).run Ybaf.prog w = .ok (.tuple #[]) w' ∧ MapM w' b n (updM f s m none) ∧ w.mapTurned w' b := by
  obtain ⟨sz, M, h, r⟩ := h
  obtain ⟨w', h1, h2, h3⟩ := h.drop law38 (t := 31) (e := 3) Ybaf.underlying31 (key_id s m hs hm) ty
  exact ⟨w', h1, ⟨_, _, h2, fun s' m' hs' hm' => upd_id r s m _ hs hm s' m' hs' hm'⟩, h3⟩

/-- What the model holds where the member holds hv. -/
def mod (hv : Nat → Nat → Option (Nat × Nat)) : Nat → Nat → Option Value := fun s m => (hv s m).map fun q => .int .i64 (q.2 : Int)
theorem mod_put (hv : Nat → Nat → Option (Nat × Nat)) (s m bb i : Nat) : updM (mod hv) s m (some (.int .i64 (i : Int))) = mod (updF hv s (updF (hv s) m (some (bb, i)))) := by
  funext s' m'
  unfold updM mod updF
  by_cases h : s' = s
  · subst h
    by_cases h2 : m' = m <;> simp [h2]
  · simp [h]
theorem mod_drop (hv : Nat → Nat → Option (Nat × Nat)) (s m : Nat) : updM (mod hv) s m none = mod (updF hv s (updF (hv s) m none)) := by
  funext s' m'
  unfold updM mod updF
  by_cases h : s' = s
  · subst h
    by_cases h2 : m' = m <;> simp [h2]
  · simp [h]
end Go.Proofs.YbulkanjaFmt.Tot
