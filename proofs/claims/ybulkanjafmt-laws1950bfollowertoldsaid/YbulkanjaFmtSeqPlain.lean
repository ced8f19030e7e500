/-
  THE PLAIN SIDE of the two laws: the ids by place; the model's rounds.
-/
import Derived.Test.YbulkanjaFmtKeep2
import Derived.Test.YbulkanjaFmtHeld
namespace Go.Proofs.YbulkanjaFmt.Tot
open Go.RowKit Go.Maps Go.Proofs.YbulkanjaFmt.MapsF

/-- The ids by place, as the row's cells. -/
def ids (L : List Nat) : List Value := (List.range L.length).flatMap fun k => [.int .i64 (L.getD k 0 : Int), .int .u64 (num L k : Int)]

theorem ids_snoc (L : List Nat) (s q : Nat) (hq : q = L.count s + 1) : ids (L ++ [s]) = ids L ++ [.int .i64 (s : Int), .int .u64 (q : Int)] := by
  subst hq
  unfold ids
  rw [List.length_append, List.length_singleton, List.range_succ, List.flatMap_append]
  congr 1
  · simp only [List.flatMap]
    congr 1
    apply List.map_congr_left
    intro k hk
    rw [List.mem_range] at hk
    rw [num_old L s k hk]
    simp [List.getD, List.getElem?_append_left hk]
  · simp [num_new, List.getD]

/-- A row of equal pieces. -/
theorem pieces_at {α : Type} (f : Nat → List α) (c : Nat) (hf : ∀ k, (f k).length = c) : ∀ n k j, k < n → j < c → ((List.range n).flatMap f)[k * c + j]? = (f k)[j]? := by
  have hlen : ∀ n, ((List.range n).flatMap f).length = n * c := by
    intro n
    induction n with
    | zero => simp
    | succ n ih => rw [List.range_succ, List.flatMap_append, List.length_append, ih]; simp [hf, Nat.succ_mul]
  intro n
  induction n with
  | zero => intro k j h; omega
  | succ n ih =>
    intro k j hk hj
    rw [List.range_succ, List.flatMap_append]
    by_cases h : k < n
    · rw [List.getElem?_append_left (by
        rw [hlen]
        have : (k + 1) * c ≤ n * c := Nat.mul_le_mul_right c h
        rw [Nat.succ_mul] at this
        omega)]
      exact ih k j h hj
    · have e : k = n := by omega
      subst e
      rw [List.getElem?_append_right (by rw [hlen]; omega), hlen]
      simp

theorem ids_at (L : List Nat) (k : Nat) (hk : k < L.length) : (ids L)[k * 2]? = some (.int .i64 (L.getD k 0 : Int)) ∧ (ids L)[k * 2 + 1]? = some (.int .u64 (num L k : Int)) :=
  ⟨(pieces_at (fun k => [Value.int .i64 (L.getD k 0 : Int), .int .u64 (num L k : Int)]) 2 (fun _ => rfl) L.length k 0 hk (by decide)), (pieces_at (fun k => [Value.int .i64 (L.getD k 0 : Int), .int .u64 (num L k : Int)]) 2 (fun _ => rfl) L.length k 1 hk (by decide))⟩
theorem pks_at (L : List Nat) (k j : Nat) (hk : k < L.length) (hj : j < 17) : (pks L)[k * 17 + j]? = (pkt ((k + 1 : Nat) : Int) (num L k : Int) (L.getD k 0 : Int))[j]? :=
  pieces_at (fun k => pkt ((k + 1 : Nat) : Int) (num L k : Int) (L.getD k 0 : Int)) 17 (fun _ => rfl) L.length k j hk hj

/-- The model's rounds at the sequencer. -/
def sq (s c : Nat) (p : Dlv) : Nat → Dlv
  | 0 => p
  | j + 1 => match (sq s c p j).hv s (c + 1 + j) with
    | some (_, i) => ⟨(sq s c p j).dv + 1, updF (sq s c p j).hv s (updF ((sq s c p j).hv s) (c + 1 + j) none), (sq s c p j).D ++ [(s, i)]⟩
    | none => sq s c p j

theorem sq_hv (s c : Nat) (p : Dlv) : ∀ j t m, (sq s c p j).hv t m = if t = s ∧ c + 1 ≤ m ∧ m < c + 1 + j then none else p.hv t m := by
  intro j
  induction j with
  | zero => intro t m; rw [if_neg (by omega)]; rfl
  | succ j ih =>
    intro t m
    have e := ih s (c + 1 + j)
    rw [if_neg (by omega)] at e
    cases h : (sq s c p j).hv s (c + 1 + j) with
    | none =>
      have : sq s c p (j + 1) = sq s c p j := by simp [sq, h]
      rw [this, ih t m]
      by_cases h1 : t = s ∧ c + 1 ≤ m ∧ m < c + 1 + j
      · rw [if_pos h1, if_pos (by omega)]
      · rw [if_neg h1]
        by_cases h2 : t = s ∧ m = c + 1 + j
        · rw [if_pos (by omega), h2.1, h2.2, ← e, h]
        · rw [if_neg (by omega)]
    | some q =>
      obtain ⟨bb, i⟩ := q
      have : (sq s c p (j + 1)).hv = updF (sq s c p j).hv s (updF ((sq s c p j).hv s) (c + 1 + j) none) := by simp [sq, h]
      rw [this]
      unfold updF
      by_cases ht : t = s
      · subst ht
        rw [if_pos rfl]
        by_cases hm : m = c + 1 + j
        · rw [if_pos hm, if_pos (by omega)]
        · rw [if_neg hm, ih t m]
          by_cases h1 : t = t ∧ c + 1 ≤ m ∧ m < c + 1 + j
          · rw [if_pos h1, if_pos (by omega)]
          · rw [if_neg h1, if_neg (by omega)]
      · rw [if_neg ht, ih t m, if_neg (by omega), if_neg (by omega)]

theorem sq_some (s c : Nat) (p : Dlv) (k : Nat) (hall : ∀ j, j < k → (p.hv s (c + 1 + j)).isSome = true) (j : Nat) (hj : j < k) : ∃ bb i, (sq s c p j).hv s (c + 1 + j) = some (bb, i) ∧ p.hv s (c + 1 + j) = some (bb, i) := by
  have h := hall j hj
  obtain ⟨⟨bb, i⟩, hq⟩ := Option.isSome_iff_exists.1 h
  refine ⟨bb, i, ?_, hq⟩
  rw [sq_hv, if_neg (by omega), hq]

theorem sq_dv (s c : Nat) (p : Dlv) (k : Nat) (hall : ∀ j, j < k → (p.hv s (c + 1 + j)).isSome = true) : ∀ j, j ≤ k → (sq s c p j).dv = p.dv + j ∧ (sq s c p j).D.length = p.D.length + j := by
  intro j
  induction j with
  | zero => intro _; exact ⟨rfl, rfl⟩
  | succ j ih =>
    intro hj
    obtain ⟨h1, h2⟩ := ih (by omega)
    obtain ⟨bb, i, hq, _⟩ := sq_some s c p k hall j (by omega)
    simp [sq, hq, h1, h2]
    omega

theorem num_rep (L : List Nat) (s k j : Nat) (hj : j < k) : (L ++ List.replicate k s)[L.length + j]? = some s ∧ num (L ++ List.replicate k s) (L.length + j) = L.count s + 1 + j := by
  have h1 : (L ++ List.replicate k s)[L.length + j]? = some s := by
    rw [List.getElem?_append_right (by omega)]
    simp [hj]
  refine ⟨h1, ?_⟩
  unfold num
  have e : (L ++ List.replicate k s).take (L.length + j + 1) = L ++ List.replicate (j + 1) s := by
    rw [Nat.add_assoc, List.take_length_add_append, List.take_replicate, Nat.min_eq_left (by omega)]
  rw [e]
  simp only [List.getD, h1, Option.getD_some, List.count_append, List.count_replicate_self]
  omega

theorem sq_run (L : List Nat) (s k : Nat) (p : Dlv) (hdv : p.dv = L.length) (hall : ∀ j, j < k → (p.hv s (L.count s + 1 + j)).isSome = true) : Dlv.run (L ++ List.replicate k s) k p = sq s (L.count s) p k := by
  have key : ∀ j, j ≤ k → Dlv.run (L ++ List.replicate k s) k p = Dlv.run (L ++ List.replicate k s) (k - j) (sq s (L.count s) p j) := by
    intro j
    induction j with
    | zero => intro _; rfl
    | succ j ih =>
      intro hj
      rw [ih (by omega), show k - j = (k - (j + 1)) + 1 by omega]
      obtain ⟨bb, i, hq, _⟩ := sq_some s _ p k hall j (by omega)
      obtain ⟨h1, h2⟩ := num_rep L s k j (by omega)
      have hd := (sq_dv s _ p k hall j (by omega)).1
      rw [hdv] at hd
      have hn : (sq s (L.count s) p j).next (L ++ List.replicate k s) = some (sq s (L.count s) p (j + 1)) := by
        unfold Dlv.next
        rw [hd, h1]
        simp only [h2, hq]
        simp [sq, hq, hd]
      simp [Dlv.run, hn]
  rw [key k (Nat.le_refl _), Nat.sub_self]
  rfl

theorem len_count (L : List Nat) (h : ∀ s ∈ L, s < 3) : L.length = L.count 0 + L.count 1 + L.count 2 := by
  induction L with
  | nil => rfl
  | cons a r ih =>
    have := ih (fun s hs => h s (List.mem_cons_of_mem _ hs))
    have ha := h a List.mem_cons_self
    simp only [List.length_cons, List.count_cons]
    match a, ha with
    | 0, _ => simp; omega
    | 1, _ => simp; omega
    | 2, _ => simp; omega
end Go.Proofs.YbulkanjaFmt.Tot
