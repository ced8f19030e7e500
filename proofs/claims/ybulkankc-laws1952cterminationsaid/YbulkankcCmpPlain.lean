/-
  THE PLAIN LAW of two lists of tags: the scan of the common positions. No Go in sight.
-/
namespace Go.Proofs.Ybulkankc.Cmp

/-- The scan from position k over m positions: 1, -1 at the first difference, 0 if there is none. -/
def scan (x y : Nat → Int) : Nat → Nat → Int
  | 0, _ => 0
  | m + 1, k => if y k < x k then 1 else if x k < y k then -1 else scan x y m (k + 1)

theorem scan_gt {x y : Nat → Int} {m k : Nat} (h : y k < x k) : scan x y (m + 1) k = 1 := by simp [scan, h]
theorem scan_lt {x y : Nat → Int} {m k : Nat} (h : x k < y k) : scan x y (m + 1) k = -1 := by
  have : ¬ y k < x k := by omega
  simp [scan, h, this]
theorem scan_eq {x y : Nat → Int} {m k : Nat} (h : x k = y k) : scan x y (m + 1) k = scan x y m (k + 1) := by simp [scan, h]

theorem scan_swap (x y : Nat → Int) : ∀ m k, scan y x m k = - scan x y m k
  | 0, _ => rfl
  | m + 1, k => by
    have ih := scan_swap x y m (k + 1)
    by_cases h1 : y k < x k
    · rw [scan_gt h1, scan_lt (x := y) (y := x) h1]
    · by_cases h2 : x k < y k
      · rw [scan_lt h2, scan_gt (x := y) (y := x) h2]; rfl
      · have h3 : x k = y k := by omega
        rw [scan_eq h3, scan_eq h3.symm, ih]

theorem scan_self (x : Nat → Int) : ∀ m k, scan x x m k = 0
  | 0, _ => rfl
  | m + 1, k => by rw [scan_eq rfl, scan_self x m (k + 1)]

theorem scan_range (x y : Nat → Int) : ∀ m k, scan x y m k = 0 ∨ scan x y m k = 1 ∨ scan x y m k = -1
  | 0, _ => .inl rfl
  | m + 1, k => by
    by_cases h1 : y k < x k
    · exact .inr (.inl (scan_gt h1))
    · by_cases h2 : x k < y k
      · exact .inr (.inr (scan_lt h2))
      · rw [scan_eq (by omega)]; exact scan_range x y m (k + 1)

/-- What Compare answers. -/
def cmp (x y : Nat → Int) (la lb : Nat) : Int :=
  if scan x y (min la lb) 0 = 0 then (if lb < la then 1 else if la < lb then -1 else 0) else scan x y (min la lb) 0

theorem cmp_found {x y : Nat → Int} {la lb : Nat} {c : Int} (h : scan x y (min la lb) 0 = c) (hc : c ≠ 0) : cmp x y la lb = c := by
  unfold cmp; rw [h, if_neg hc]
theorem cmp_gt {x y : Nat → Int} {la lb : Nat} (h : scan x y (min la lb) 0 = 0) (hl : lb < la) : cmp x y la lb = 1 := by
  unfold cmp; rw [h, if_pos rfl, if_pos hl]
theorem cmp_lt {x y : Nat → Int} {la lb : Nat} (h : scan x y (min la lb) 0 = 0) (hl : la < lb) : cmp x y la lb = -1 := by
  unfold cmp; rw [h, if_pos rfl, if_neg (by omega), if_pos hl]
theorem cmp_eq {x y : Nat → Int} {la lb : Nat} (h : scan x y (min la lb) 0 = 0) (hl : la = lb) : cmp x y la lb = 0 := by
  unfold cmp; rw [h, if_pos rfl, if_neg (by omega), if_neg (by omega)]
theorem cmp_same (x y : Nat → Int) (m : Nat) : cmp x y m m = scan x y m 0 := by
  unfold cmp
  rw [Nat.min_self]
  by_cases h : scan x y m 0 = 0
  · rw [if_pos h, if_neg (by omega), if_neg (by omega), h]
  · rw [if_neg h]

/-- What obsolete answers. -/
def obs (x y : Nat → Int) (la lb : Nat) : Bool := decide (scan x y (min la lb) 0 < 0)

theorem obs_asym (x y : Nat → Int) (la lb : Nat) : (obs x y la lb && obs y x lb la) = false := by
  unfold obs
  rw [scan_swap x y, Nat.min_comm lb la]
  have := scan_range x y (min la lb) 0
  rcases this with h | h | h <;> rw [h] <;> rfl
theorem obs_self (x : Nat → Int) (la lb : Nat) : obs x x la lb = false := by
  unfold obs; rw [scan_self]; rfl
theorem obs_cmp (x y : Nat → Int) (m : Nat) : obs x y m m = decide (cmp x y m m < 0) := by
  unfold obs; rw [cmp_same, Nat.min_self]

end Go.Proofs.Ybulkankc.Cmp
