/-
  THE PLAIN LAWS behind ordering.LawS1950CPlace: no run of the program in sight.
-/
import Derived.Test.YbulkanjaPlace2
namespace Go.Proofs.Ybulkanja.Place
open Go.RowKit Go.Maps Go.Proofs.Ybulkanja.MapsF

/-- Is k among the first n? -/
def hasN (x : Nat → Int) (k : Int) : Nat → Bool
  | 0 => false
  | n + 1 => hasN x k n || x n == k

theorem hasN_iff (x : Nat → Int) (k : Int) : ∀ n, hasN x k n = true ↔ ∃ i, i < n ∧ x i = k
  | 0 => by simp [hasN]
  | n + 1 => by
    simp only [hasN, Bool.or_eq_true, hasN_iff x k n, beq_iff_eq]
    constructor
    · rintro (⟨i, h, e⟩ | h)
      · exact ⟨i, by omega, e⟩
      · exact ⟨n, by omega, h⟩
    · rintro ⟨i, h, e⟩
      by_cases hi : i = n
      · subst hi; exact .inr e
      · exact .inl ⟨i, by omega, e⟩

/-- The sender's held numbers behind k rounds. -/
def heldM (x : Nat → Int) (start : Int) : Nat → Lit → Option Value
  | 0 => fun _ => none
  | k + 1 => upd (heldM x start k) (.int .u64 (IntKind.u64.wrap (start + x k))) (some (.slice none 0 0))

theorem wrap_u64 (n : Int) : IntKind.u64.wrap n = n % 18446744073709551616 := by
  simp [IntKind.wrap, IntKind.signed, IntKind.bits]

theorem wf_u64 {x : Int} (h : (Lit.int .u64 x).wf = true) : 0 ≤ x ∧ x < 18446744073709551616 := by
  simp [Lit.wf, IntKind.min, IntKind.max, IntKind.signed, IntKind.bits] at h
  omega

theorem seqU_eq {x : Int} (hx : 0 ≤ x ∧ x < 18446744073709551616) : ∀ k, seqU x k = IntKind.u64.wrap (x + k)
  | 0 => by rw [wrap_u64]; simp only [seqU]; omega
  | k + 1 => by
    simp only [seqU]
    rw [seqU_eq hx k, wrap_u64, wrap_u64, wrap_u64]
    omega

theorem lit_ne {a b : Int} (h : a ≠ b) : Lit.int .u64 a ≠ Lit.int .u64 b := fun e => by cases e; exact h rfl

theorem wrap_ne {x : Int} {i j : Int} (hi : 0 ≤ i ∧ i ≤ 1000) (hj : 0 ≤ j ∧ j ≤ 1000) (h : i ≠ j) : IntKind.u64.wrap (x + i) ≠ IntKind.u64.wrap (x + j) := by
  rw [wrap_u64, wrap_u64]; omega

theorem isKey (n : Int) : WideAt.IsKeyLit (.int .u64 n) := trivial

/-- No place ahead of its time. -/
theorem MPs_none {given start : Int} (hg : 0 ≤ given ∧ given < 18446744073709551616) (s : Nat) : ∀ k m : Nat, k < m → m ≤ 1000 → MPs given start s k (.int .u64 (IntKind.u64.wrap (given + m))) = none
  | 0, _, _, _ => rfl
  | k + 1, m, h, hm => by
    simp only [MPs]
    have e : IntKind.u64.wrap (seqU given k + 1) = IntKind.u64.wrap (given + ((k + 1 : Nat) : Int)) := seqU_eq hg (k + 1)
    rw [e, upd_other (lit_ne (wrap_ne (by omega) (by omega) (by omega)))]
    exact MPs_none hg s k m (by omega) hm

theorem MPs_fresh {given start : Int} (hg : 0 ≤ given ∧ given < 18446744073709551616) (s : Nat) (k : Nat) (hk : k ≤ 255) : MPs given start s k (.int .u64 (IntKind.u64.wrap (seqU given k + 1))) = none := by
  have e : IntKind.u64.wrap (seqU given k + 1) = IntKind.u64.wrap (given + ((k + 1 : Nat) : Int)) := seqU_eq hg (k + 1)
  rw [e]
  exact MPs_none hg s k (k + 1) (by omega) (by omega)

/-- The i-th place. -/
theorem MPs_at {given start : Int} (hg : 0 ≤ given ∧ given < 18446744073709551616) (hs : 0 ≤ start ∧ start < 18446744073709551616) (s : Nat) : ∀ k i : Nat, 1 ≤ i → i ≤ k → k ≤ 1000 →
    MPs given start s k (.int .u64 (IntKind.u64.wrap (given + i))) = some (.agg #[.int .i64 s, .int .u64 (IntKind.u64.wrap (start + i))])
  | 0, i, h1, h2, _ => by omega
  | k + 1, i, h1, h2, hk => by
    simp only [MPs]
    have e : IntKind.u64.wrap (seqU given k + 1) = IntKind.u64.wrap (given + ((k + 1 : Nat) : Int)) := seqU_eq hg (k + 1)
    have e' : IntKind.u64.wrap (seqU start k + 1) = IntKind.u64.wrap (start + ((k + 1 : Nat) : Int)) := seqU_eq hs (k + 1)
    by_cases hi : i = k + 1
    · subst hi
      rw [e, e', upd_same (isKey _)]
    · rw [e, upd_other (lit_ne (wrap_ne (by omega) (by omega) (by omega)))]
      exact MPs_at hg hs s k i h1 (by omega) (by omega)

/-- What is held, told by the list of numbers. -/
theorem heldM_has {x : Nat → Int} {start : Int} (hx : ∀ i, 0 ≤ x i ∧ x i ≤ 255) (m : Int) (hm : 0 ≤ m ∧ m ≤ 256) : ∀ n, (heldM x start n (.int .u64 (IntKind.u64.wrap (start + m)))).isSome = hasN x m n
  | 0 => rfl
  | n + 1 => by
    have hn := hx n
    simp only [heldM, hasN]
    by_cases h : x n = m
    · rw [h, upd_same (isKey _)]; simp
    · rw [upd_other (lit_ne (wrap_ne (by omega) (by omega) (fun e => h e.symm))), heldM_has hx m hm n]
      simp [h]

theorem heldM_seq {x : Nat → Int} {start : Int} (hs : 0 ≤ start ∧ start < 18446744073709551616) (hx : ∀ i, 0 ≤ x i ∧ x i ≤ 255) (n k : Nat) (hk : k ≤ 255) : (heldM x start n (.int .u64 (seqU start (k + 1)))).isSome = hasN x ((k + 1 : Nat) : Int) n := by
  rw [seqU_eq hs]
  exact heldM_has hx _ (by omega) n

theorem hasN_256 {x : Nat → Int} (hx : ∀ i, 0 ≤ x i ∧ x i ≤ 255) (n : Nat) : hasN x 256 n = false := by
  cases h : hasN x 256 n
  · rfl
  · obtain ⟨i, _, e⟩ := (hasN_iff x 256 n).1 h
    have := hx i
    omega

/-- Pigeons: k different numbers among n of them. -/
theorem pigeons (l : List Int) : ∀ k : Nat, (∀ j : Nat, j < k → ((j + 1 : Nat) : Int) ∈ l) → k ≤ l.length := by
  intro k
  induction k generalizing l with
  | zero => intro _; omega
  | succ k ih =>
    intro h
    have hm := h k (by omega)
    have := ih (l.erase ((k + 1 : Nat) : Int)) (fun j hj => by
      rw [List.mem_erase_of_ne (by omega)]
      exact h j (by omega))
    rw [List.length_erase_of_mem hm] at this
    have := List.length_pos_of_mem hm
    omega

theorem count_le {x : Nat → Int} {n k : Nat} (h : ∀ j : Nat, j < k → hasN x ((j + 1 : Nat) : Int) n = true) : k ≤ n := by
  have := pigeons ((List.range n).map x) k (fun j hj => by
    obtain ⟨i, hi, e⟩ := (hasN_iff x _ n).1 (h j hj)
    rw [List.mem_map]
    exact ⟨i, by simpa using hi, e⟩)
  simpa using this

theorem pkt_length (a b c : Int) : (pkt a b c).length = 17 := rfl
theorem pks_length (given start : Int) (s : Nat) : ∀ k, (pks given start s k).length = k * 17
  | 0 => rfl
  | k + 1 => by simp only [pks, List.length_append, pks_length given start s k, pkt_length]; omega

/-- The i-th packet. -/
theorem pks_at {given start : Int} (hg : 0 ≤ given ∧ given < 18446744073709551616) (hs : 0 ≤ start ∧ start < 18446744073709551616) (s : Nat) : ∀ k i j : Nat, i < k → j < 17 →
    (pks given start s k)[i * 17 + j]? = (pkt (IntKind.u64.wrap (given + ((i + 1 : Nat) : Int))) (IntKind.u64.wrap (start + ((i + 1 : Nat) : Int))) s)[j]?
  | 0, i, j, h, _ => by omega
  | k + 1, i, j, h, hj => by
    simp only [pks]
    by_cases hi : i = k
    · subst hi
      rw [List.getElem?_append_right (by rw [pks_length]; omega), pks_length, show i * 17 + j - i * 17 = j by omega]
      have e : IntKind.u64.wrap (seqU given i + 1) = IntKind.u64.wrap (given + ((i + 1 : Nat) : Int)) := seqU_eq hg (i + 1)
      have e' : IntKind.u64.wrap (seqU start i + 1) = IntKind.u64.wrap (start + ((i + 1 : Nat) : Int)) := seqU_eq hs (i + 1)
      rw [e, e']
    · rw [List.getElem?_append_left (by rw [pks_length]; omega)]
      exact pks_at hg hs s k i j (by omega) hj

end Go.Proofs.Ybulkanja.Place
