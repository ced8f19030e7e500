/-
  THE WALK of zzs1950bsamedl (7), at two rows that hold the same.
-/
import Derived.Test.YbulkanjaFmtRun
namespace Go.Proofs.YbulkanjaFmt.Tot
open Go.RowKit Go.Maps Go.Proofs.YbulkanjaFmt.MapsF

/-- The row at p holds D. -/
def RowD (w : World) (p : Option Addr) (D : List (Nat × Nat)) : Prop := ∀ j, j < D.length → ∃ g, p = some ⟨g, 0, none⟩ ∧ ∃ s i : Nat, D[j]? = some (s, i) ∧ w.cell? ⟨g, j * 2, none⟩ = some (.int .i64 (s : Int)) ∧ w.cell? ⟨g, j * 2 + 1, none⟩ = some (.int .i64 (i : Int))

theorem dlx_length (D : List (Nat × Nat)) : (dlx D).length = D.length * 2 := by
  induction D with
  | nil => rfl
  | cons a r ih => simp only [dlx, List.flatMap_cons, List.length_append, List.length_cons, List.length_nil] at ih ⊢; omega
theorem dlx_at (D : List (Nat × Nat)) : ∀ j s i, D[j]? = some (s, i) → (dlx D)[j * 2]? = some (.int .i64 (s : Int)) ∧ (dlx D)[j * 2 + 1]? = some (.int .i64 (i : Int)) := by
  induction D with
  | nil => intro j s i h; simp at h
  | cons a r ih =>
    intro j s i h
    cases j with
    | zero =>
      simp at h
      subst h
      simp [dlx]
    | succ j =>
      have := ih j s i (by simpa using h)
      have e : dlx (a :: r) = .int .i64 (a.1 : Int) :: .int .i64 (a.2 : Int) :: dlx r := by simp [dlx]
      rw [e, show (j + 1) * 2 = j * 2 + 1 + 1 by omega, List.getElem?_cons_succ, List.getElem?_cons_succ, List.getElem?_cons_succ, List.getElem?_cons_succ]
      exact this

theorem rowD_of {w : World} {base : Nat} {v : Value} {n : Nat} {D : List (Nat × Nat)} (h : w.ownsRow base 46 2 v n (dlx D)) : n = D.length ∧ ∃ p cap, v = .slice p n cap ∧ RowD w p D := by
  have hn : n = D.length := by
    have := h.1
    rw [dlx_length] at this
    omega
  refine ⟨hn, ?_⟩
  obtain ⟨_, ⟨rfl, h0⟩ | ⟨g, cap, cur, rfl, _, _⟩⟩ := id h
  · exact ⟨none, 0, by rw [h0], fun j hj => by omega⟩
  · refine ⟨_, _, rfl, fun j hj => ⟨g, rfl, ?_⟩⟩
    obtain ⟨s, i, hD⟩ : ∃ s i, D[j]? = some (s, i) := ⟨D[j].1, D[j].2, List.getElem?_eq_getElem hj⟩
    obtain ⟨h1, h2⟩ := dlx_at D j s i hD
    exact ⟨s, i, hD, (h.cellAt (j * 2) (by omega)).trans h1, (h.cellAt (j * 2 + 1) (by omega)).trans h2⟩

set_option maxRecDepth 100000 in
set_option maxHeartbeats 3200000 in
theorem same_any (p1 p2 : Option Addr) (c1 c2 n : Nat) (D : List (Nat × Nat)) (w : World) (hn : n = D.length) (hl : n ≤ 100000) (h1 : RowD w p1 D) (h2 : RowD w p2 D) :
    Calls Ybaf.prog 7 #[.slice p1 n c1, .slice p2 n c2] w fun e w' => e = .returned (.bool true) ∧ ∃ k, w' = w.drewN k := by
  have H1 := hide h1
  have H2 := hide h2
  clear h1 h2
  go_enter Ybaf.func7, Ybaf.ntmps7
  go_wp2
  go_loopw [13] (fun i wr => ∃ k : Nat, k ≤ n ∧ i = .int .i64 k ∧ ∃ n, wr = w.drewN n) (fun i _ => n - (intOf i).toNat)
  case atStart => exact ⟨0, Nat.zero_le _, rfl, 0, rfl⟩
  case round =>
    obtain ⟨k, hk, rfl, q, rfl⟩ := hrel
    by_cases hlt : k < n
    · obtain ⟨g1, rfl, s, i, hD, a1, a2⟩ := H1.out k (by omega)
      obtain ⟨g2, rfl, s', i', hD', b1, b2⟩ := H2.out k (by omega)
      rw [hD] at hD'
      cases hD'
      have k0 : (k : Int) < (n : Int) := by omega
      go_wp2
      go_quiet (fail)
      go_wp2
      go_roundw
      case rel => exact ⟨k + 1, by omega, by go_num, _, rfl⟩
      case measure => simp [intOf]; omega
    · have hkn : k = n := by omega
      subst hkn
      go_wp2
      go_ret
      exact ⟨rfl, _, rfl⟩
end Go.Proofs.YbulkanjaFmt.Tot
