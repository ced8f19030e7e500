/-
  THE PLAIN SIDE: the senders by place, their numbers.
-/
import Derived.Test.YbulkanjaFmtState
namespace Go.Proofs.YbulkanjaFmt.Tot
open Go.RowKit Go.Maps Go.Proofs.YbulkanjaFmt.MapsF

/-- The number of the message at place k + 1. -/
def num (L : List Nat) (k : Nat) : Nat := (L.take (k + 1)).count (L.getD k 0)
def idV (s n : Nat) : Value := .agg #[.int .i64 (s : Int), .int .u64 (n : Int)]
/-- The map of the places. -/
def plf (L : List Nat) : Nat → Option Value
  | 0 => none
  | k + 1 => (L[k]?).map fun s => idV s (num L k)
/-- The packets sent. -/
def pks (L : List Nat) : List Value := (List.range L.length).flatMap fun k => pkt ((k + 1 : Nat) : Int) (num L k : Int) (L.getD k 0 : Int)

theorem num_old (L : List Nat) (s k : Nat) (h : k < L.length) : num (L ++ [s]) k = num L k := by
  unfold num
  rw [List.take_append_of_le_length (by omega)]
  congr 1
  simp [List.getD, List.getElem?_append_left h]
theorem num_new (L : List Nat) (s : Nat) : num (L ++ [s]) L.length = L.count s + 1 := by
  unfold num
  rw [List.take_of_length_le (by simp)]
  simp [List.getD]
theorem plf_snoc (L : List Nat) (s g q : Nat) (hg : g = L.length + 1) (hq : q = L.count s + 1) : updF (plf L) g (some (idV s q)) = plf (L ++ [s]) := by
  subst hg
  subst hq
  funext k
  unfold updF
  cases k with
  | zero => simp [plf]
  | succ k =>
    simp only [plf]
    by_cases h : k = L.length
    · subst h
      rw [if_pos rfl, num_new]
      simp
    · rw [if_neg (by omega)]
      by_cases hk : k < L.length
      · rw [num_old L s k hk, List.getElem?_append_left hk]
      · rw [List.getElem?_eq_none (by omega), List.getElem?_eq_none (by simp; omega)]
        rfl
theorem plf_next (L : List Nat) : plf L (L.length + 1) = none := by simp [plf]
theorem pks_snoc (L : List Nat) (s g q : Nat) (hg : g = L.length + 1) (hq : q = L.count s + 1) : pks (L ++ [s]) = pks L ++ pkt (g : Int) (q : Int) (s : Int) := by
  subst hg
  subst hq
  unfold pks
  rw [List.length_append, List.length_singleton, List.range_succ, List.flatMap_append]
  congr 1
  · simp only [List.flatMap]
    congr 1
    apply List.map_congr_left
    intro k hk
    rw [List.mem_range] at hk
    rw [num_old L s k hk]
    simp [List.getD, List.getElem?_append_left hk]
  · simp [num_new, List.getD]
theorem cnt_snoc (L : List Nat) (s q : Nat) (hq : q = L.count s + 1) : updF (fun t => L.count t) s q = fun t => (L ++ [s]).count t := by
  subst hq
  funext t
  unfold updF
  by_cases h : t = s
  · subst h; simp
  · rw [if_neg h]
    simp [List.count_append, List.count_singleton]
    exact fun e => h e.symm

/-- The state behind the placing of L. -/
def placed (x : St) (L : List Nat) (bv : Value) : St := { x with bv := bv, pl := fun t => L.count t, gv := L.length, plm := plf L, bx := pks L, nb := L.length, nM := L.length }
end Go.Proofs.YbulkanjaFmt.Tot
