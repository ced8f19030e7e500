/-
  THE WALKS of cpa.Compare (11), afbbjplus.obsolete (9), afbbjplus.zzs1952amodel (10): each computes the plain scan of YbulkankcCmpPlain. They only read; behind them the world is the one before but for draws.
-/
import Derived.Test.YbulkankcProg
import Derived.Test.YbulkankcCmpPlain
import Derived.WalkKit
import Derived.WalkLawsBesides
import Derived.Below
import Derived.Deep.QuietTactic
import Derived.BigQuiet
import Derived.WalkSpells
import Derived.WalkSmall
namespace Go.Proofs.Ybulkankc.Cmp
open Go.RowKit

theorem hide {p : Prop} (h : p) : Hid p := h

/-- What a walk is told of a slice of ints: empty, or its cells. -/
def Row (w : World) (a : Option Addr) (len : Nat) (x : Nat → Int) : Prop :=
  len = 0 ∨ ∃ b off, a = some ⟨b, off, none⟩ ∧ ∀ i, i < len → w.cell? ⟨b, off + i, none⟩ = some (.int .i64 (x i))

theorem Row.drewN {w : World} {a : Option Addr} {len : Nat} {x : Nat → Int} (h : Row w a len x) (n : Nat) : Row (w.drewN n) a len x := h

theorem step_eq {x y : Nat → Int} {m k : Nat} (h : Hid (scan x y m 0 = scan x y (m - k) k)) (hk : k < m) (e1 : x k ≤ y k) (e2 : y k ≤ x k) : Hid (scan x y m 0 = scan x y (m - (k + 1)) (k + 1)) := by
  have h' := h.out
  rw [show m - k = (m - (k + 1)) + 1 by omega, scan_eq (by omega)] at h'
  exact h'
theorem step_gt {x y : Nat → Int} {m k : Nat} (h : Hid (scan x y m 0 = scan x y (m - k) k)) (hk : k < m) (e1 : y k < x k) : scan x y m 0 = 1 := by
  have h' := h.out
  rw [show m - k = (m - (k + 1)) + 1 by omega, scan_gt e1] at h'
  exact h'
theorem step_lt {x y : Nat → Int} {m k : Nat} (h : Hid (scan x y m 0 = scan x y (m - k) k)) (hk : k < m) (e1 : x k < y k) : scan x y m 0 = -1 := by
  have h' := h.out
  rw [show m - k = (m - (k + 1)) + 1 by omega, scan_lt e1] at h'
  exact h'
theorem step_end {x y : Nat → Int} {m k : Nat} (h : Hid (scan x y m 0 = scan x y (m - k) k)) (hk : ¬ k < m) : scan x y m 0 = 0 := by
  have h' := h.out
  rw [show m - k = 0 by omega] at h'
  exact h'

theorem dd2 (w : World) (a b : Nat) : (w.drewN a).drewN b = w.drewN (a + b) := World.drewN_drewN _ _ _
theorem dd3 (w : World) (a b c : Nat) : ((w.drewN a).drewN b).drewN c = w.drewN (a + b + c) := by rw [dd2, dd2, Nat.add_assoc]

theorem ret_int {k : IntKind} {a b : Int} (h : a = b) : Ending.returned (.int k a) = .returned (.int k b) := by rw [h]
theorem ret_bool {a b : Bool} (h : a = b) : Ending.returned (.bool a) = .returned (.bool b) := by rw [h]

set_option maxHeartbeats 1000000 in
theorem compare_rows (la ca lb cb : Nat) (x y : Nat → Int) (w : World) (hla : la ≤ 1024) (hlb : lb ≤ 1024) (b0 o0 b1 o1 : Nat)
   (hc0 : ∀ i, i < la → w.cell? ⟨b0, o0 + i, none⟩ = some (.int .i64 (x i))) (hc1 : ∀ i, i < lb → w.cell? ⟨b1, o1 + i, none⟩ = some (.int .i64 (y i))) :
    Calls Yba.prog 11 #[.slice (some ⟨b0, o0, none⟩) la ca, .slice (some ⟨b1, o1, none⟩) lb cb] w fun e w' => e = .returned (.int .i64 (cmp x y la lb)) ∧ ∃ n, w' = w.drewN n := by
  obtain ⟨m, HM, hma, hmb, hmo⟩ : ∃ m, Hid (min la lb = m) ∧ m ≤ la ∧ m ≤ lb ∧ (m = la ∨ m = lb) := ⟨min la lb, hide rfl, by omega, by omega, by omega⟩
  have fin : ∀ c : Int, scan x y m 0 = c → c ≠ 0 → cmp x y la lb = c := fun c h h0 => cmp_found (by rw [HM.out]; exact h) h0
  have HF := hide fin
  have HG := hide (fun (h : scan x y m 0 = 0) (hl : lb < la) => cmp_gt (x := x) (y := y) (by rw [HM.out]; exact h) hl)
  have HL := hide (fun (h : scan x y m 0 = 0) (hl : la < lb) => cmp_lt (x := x) (y := y) (by rw [HM.out]; exact h) hl)
  have HE := hide (fun (h : scan x y m 0 = 0) (hl : la = lb) => cmp_eq (x := x) (y := y) (by rw [HM.out]; exact h) hl)
  clear fin
  rcases Nat.lt_or_ge lb la with hlab | hlab
  · obtain rfl : m = lb := by omega
    go_enter Yba.func11, Yba.ntmps11
    go_wp2
    go_loopw [11] (fun i wr => ∃ k : Nat, k ≤ m ∧ i = .int .i64 k ∧ Hid (scan x y m 0 = scan x y (m - k) k) ∧ ∃ n, wr = w.drewN n) (fun i _ => m - (intOf i).toNat)
    case atStart => exact ⟨0, Nat.zero_le _, rfl, hide rfl, 0, rfl⟩
    case round =>
      obtain ⟨k, hk, rfl, HS, n, rfl⟩ := hrel
      by_cases hlt : k < m
      · have e0 := hc0 k (by omega)
        have e1 := hc1 k (by omega)
        have i0 : (k : Int) < (la : Int) := by omega
        have i1 : (k : Int) < (m : Int) := by omega
        go_wp2
        go_quiet (fail)
        go_wp2
        · go_ret
          exact ⟨ret_int (HF.out 1 (step_gt HS hlt (by assumption)) (by decide)).symm, _, dd2 _ _ _⟩
        · go_quiet (fail)
          go_wp2
          · go_ret
            exact ⟨ret_int (HF.out (-1) (step_lt HS hlt (by assumption)) (by decide)).symm, _, dd3 _ _ _ _⟩
          · go_roundw
            case rel => exact ⟨k + 1, by omega, by go_num, step_eq HS hlt (by assumption) (by assumption), _, rfl⟩
            case measure => simp [intOf]; omega
      · go_wp2
        go_ret
        exact ⟨ret_int (HG.out (step_end HS hlt) hlab).symm, _, rfl⟩
  · obtain rfl : m = la := by omega
    go_enter Yba.func11, Yba.ntmps11
    go_wp2
    go_loopw [11] (fun i wr => ∃ k : Nat, k ≤ m ∧ i = .int .i64 k ∧ Hid (scan x y m 0 = scan x y (m - k) k) ∧ ∃ n, wr = w.drewN n) (fun i _ => m - (intOf i).toNat)
    case atStart => exact ⟨0, Nat.zero_le _, rfl, hide rfl, 0, rfl⟩
    case round =>
      obtain ⟨k, hk, rfl, HS, n, rfl⟩ := hrel
      by_cases hlt : k < m
      · have e0 := hc0 k (by omega)
        have e1 := hc1 k (by omega)
        have i0 : (k : Int) < (m : Int) := by omega
        have i1 : (k : Int) < (lb : Int) := by omega
        go_wp2
        go_quiet (fail)
        go_wp2
        · go_ret
          exact ⟨ret_int (HF.out 1 (step_gt HS hlt (by assumption)) (by decide)).symm, _, dd2 _ _ _⟩
        · go_quiet (fail)
          go_wp2
          · go_ret
            exact ⟨ret_int (HF.out (-1) (step_lt HS hlt (by assumption)) (by decide)).symm, _, dd3 _ _ _ _⟩
          · go_roundw
            case rel => exact ⟨k + 1, by omega, by go_num, step_eq HS hlt (by assumption) (by assumption), _, rfl⟩
            case measure => simp [intOf]; omega
      · go_wp2
        · go_ret
          exact ⟨ret_int (HL.out (step_end HS hlt) (by omega)).symm, _, rfl⟩
        · go_ret
          exact ⟨ret_int (HE.out (step_end HS hlt) (by omega)).symm, _, rfl⟩

set_option maxHeartbeats 1000000 in
/-- .. where one of the two is empty. -/
theorem compare_none (a0 a1 : Option Addr) (la ca lb cb : Nat) (x y : Nat → Int) (w : World) (hla : la ≤ 1024) (hlb : lb ≤ 1024) (h0 : la = 0 ∨ lb = 0) :
    Calls Yba.prog 11 #[.slice a0 la ca, .slice a1 lb cb] w fun e w' => e = .returned (.int .i64 (cmp x y la lb)) ∧ ∃ n, w' = w.drewN n := by
  have hs : scan x y (min la lb) 0 = 0 := by rw [show min la lb = 0 by omega]; rfl
  have HG := hide (fun (hl : lb < la) => cmp_gt hs hl)
  have HL := hide (fun (hl : la < lb) => cmp_lt hs hl)
  have HE := hide (fun (hl : la = lb) => cmp_eq hs hl)
  clear hs
  rcases Nat.lt_trichotomy lb la with hlab | hlab | hlab
  · obtain rfl : lb = 0 := by omega
    go_enter Yba.func11, Yba.ntmps11
    go_wp2
    refine wp_loop_rounds 1 ?_
    rw [rounds_succ]
    go_wp2
    go_ret
    exact ⟨ret_int (HG.out hlab).symm, 0, rfl⟩
  · obtain rfl : lb = 0 := by omega
    subst hlab
    go_enter Yba.func11, Yba.ntmps11
    go_wp2
    refine wp_loop_rounds 1 ?_
    rw [rounds_succ]
    go_wp2
    go_ret
    exact ⟨ret_int (HE.out trivial).symm, 0, rfl⟩
  · obtain rfl : la = 0 := by omega
    go_enter Yba.func11, Yba.ntmps11
    go_wp2
    refine wp_loop_rounds 1 ?_
    rw [rounds_succ]
    go_wp2
    go_ret
    exact ⟨ret_int (HL.out hlab).symm, 0, rfl⟩

/-- cpa.Compare, whatever the two slices. -/
theorem compare_any (a0 a1 : Option Addr) (la ca lb cb : Nat) (x y : Nat → Int) (w : World) (hla : la ≤ 1024) (hlb : lb ≤ 1024) (h0 : Row w a0 la x) (h1 : Row w a1 lb y) :
    Calls Yba.prog 11 #[.slice a0 la ca, .slice a1 lb cb] w fun e w' => e = .returned (.int .i64 (cmp x y la lb)) ∧ ∃ n, w' = w.drewN n := by
  rcases h0 with h0 | ⟨b0, o0, rfl, h0⟩
  · exact compare_none a0 a1 la ca lb cb x y w hla hlb (.inl h0)
  · rcases h1 with h1 | ⟨b1, o1, rfl, h1⟩
    · exact compare_none _ a1 la ca lb cb x y w hla hlb (.inr h1)
    · exact compare_rows la ca lb cb x y w hla hlb b0 o0 b1 o1 h0 h1

theorem Row.mono {w : World} {a : Option Addr} {len : Nat} {x : Nat → Int} (h : Row w a len x) {m : Nat} (hm : m ≤ len) : Row w a m x := by
  rcases h with h | ⟨b, o, rfl, h⟩
  · exact .inl (by omega)
  · exact .inr ⟨b, o, rfl, fun i hi => h i (by omega)⟩

theorem obs_of (x y : Nat → Int) {la lb m : Nat} (h : min la lb = m) : decide (cmp x y m m < 0) = obs x y la lb := by
  rw [← obs_cmp]; unfold obs; rw [h, Nat.min_self]

set_option maxHeartbeats 1000000 in
theorem obsolete_any (a0 a1 : Option Addr) (la ca lb cb : Nat) (x y : Nat → Int) (w : World) (hla : la ≤ 1024) (hlb : lb ≤ 1024) (hca : la ≤ ca) (hcb : lb ≤ cb) (h0 : Row w a0 la x) (h1 : Row w a1 lb y) :
    Calls Yba.prog 9 #[.slice a0 la ca, .slice a1 lb cb] w fun e w' => e = .returned (.bool (obs x y la lb)) ∧ ∃ n, w' = w.drewN n := by
  rcases Nat.lt_or_ge lb la with hl | hl
  · have r0 := h0.mono (Nat.le_of_lt hl)
    have HO := hide (obs_of x y (la := la) (lb := lb) (m := lb) (by omega))
    go_enter Yba.func9, Yba.ntmps9
    go_wp2
    go_quiet ((go_at_call 11; exact Calls.quiet_of (compare_any a0 a1 lb ca lb cb x y _ hlb hlb (r0.drewN _) (h1.drewN _))))
    go_wp2
    go_ret
    exact ⟨ret_bool HO.out, _, rfl⟩
  · have r1 := h1.mono hl
    have HO := hide (obs_of x y (la := la) (lb := lb) (m := la) (by omega))
    go_enter Yba.func9, Yba.ntmps9
    go_wp2
    go_quiet ((go_at_call 11; exact Calls.quiet_of (compare_any a0 a1 la ca la cb x y _ hla hla (h0.drewN _) (r1.drewN _))))
    go_wp2
    go_ret
    exact ⟨ret_bool HO.out, _, rfl⟩

theorem obs_hit {x y : Nat → Int} {la lb m : Nat} (hm : Hid (min la lb = m)) {b : Bool} {c : Int} (h : scan x y m 0 = c) (hb : decide (c < 0) = b) : b = obs x y la lb := by
  unfold obs; rw [hm.out, h, hb]

theorem step_ne {x y : Nat → Int} {la lb m k : Nat} (hm : Hid (min la lb = m)) (h : Hid (scan x y m 0 = scan x y (m - k) k)) (hk : k < m) (e : (x k != y k) = true) : decide (x k < y k) = obs x y la lb := by
  have e' : x k ≠ y k := by simpa using e
  rcases Int.lt_or_gt_of_ne e' with h1 | h1
  · exact (decide_eq_true h1).trans (obs_hit hm (step_lt h hk h1) rfl)
  · exact (decide_eq_false (by omega)).trans (obs_hit hm (step_gt h hk h1) rfl)
theorem step_eqb {x y : Nat → Int} {m k : Nat} (h : Hid (scan x y m 0 = scan x y (m - k) k)) (hk : k < m) (e : (x k != y k) = false) : Hid (scan x y m 0 = scan x y (m - (k + 1)) (k + 1)) := by
  have e' : x k = y k := by simpa using e
  exact step_eq h hk (by omega) (by omega)

set_option maxHeartbeats 1000000 in
theorem model_rows (la ca lb cb : Nat) (x y : Nat → Int) (w : World) (hla : la ≤ 1024) (hlb : lb ≤ 1024) (b0 o0 b1 o1 : Nat)
   (hc0 : ∀ i, i < la → w.cell? ⟨b0, o0 + i, none⟩ = some (.int .i64 (x i))) (hc1 : ∀ i, i < lb → w.cell? ⟨b1, o1 + i, none⟩ = some (.int .i64 (y i))) :
    Calls Yba.prog 10 #[.slice (some ⟨b0, o0, none⟩) la ca, .slice (some ⟨b1, o1, none⟩) lb cb] w fun e w' => e = .returned (.bool (obs x y la lb)) ∧ ∃ n, w' = w.drewN n := by
  obtain ⟨m, HM, hma, hmb, hmo⟩ : ∃ m, Hid (min la lb = m) ∧ m ≤ la ∧ m ≤ lb ∧ (m = la ∨ m = lb) := ⟨min la lb, hide rfl, by omega, by omega, by omega⟩
  rcases Nat.lt_or_ge lb la with hlab | hlab
  · obtain rfl : m = lb := by omega
    go_enter Yba.func10, Yba.ntmps10
    go_wp2
    go_loopw [6] (fun i wr => ∃ k : Nat, k ≤ m ∧ i = .int .i64 k ∧ Hid (scan x y m 0 = scan x y (m - k) k) ∧ ∃ n, wr = w.drewN n) (fun i _ => m - (intOf i).toNat)
    case atStart => exact ⟨0, Nat.zero_le _, rfl, hide rfl, 0, rfl⟩
    case round =>
      obtain ⟨k, hk, rfl, HS, n, rfl⟩ := hrel
      by_cases hlt : k < m
      · have e0 := hc0 k (by omega)
        have e1 := hc1 k (by omega)
        have i0 : (k : Int) < (la : Int) := by omega
        have i1 : (k : Int) < (m : Int) := by omega
        go_wp2
        go_quiet (fail)
        go_wp2
        · go_quiet (fail)
          go_wp2
          go_ret
          exact ⟨ret_bool (step_ne HM HS hlt (by assumption)), _, dd3 _ _ _ _⟩
        · go_roundw
          case rel => exact ⟨k + 1, by omega, by go_num, step_eqb HS hlt (by assumption), _, rfl⟩
          case measure => simp [intOf]; omega
      · go_wp2
        go_ret
        exact ⟨ret_bool (obs_hit HM (step_end HS hlt) rfl), _, rfl⟩
  · obtain rfl : m = la := by omega
    go_enter Yba.func10, Yba.ntmps10
    go_wp2
    go_loopw [6] (fun i wr => ∃ k : Nat, k ≤ m ∧ i = .int .i64 k ∧ Hid (scan x y m 0 = scan x y (m - k) k) ∧ ∃ n, wr = w.drewN n) (fun i _ => m - (intOf i).toNat)
    case atStart => exact ⟨0, Nat.zero_le _, rfl, hide rfl, 0, rfl⟩
    case round =>
      obtain ⟨k, hk, rfl, HS, n, rfl⟩ := hrel
      by_cases hlt : k < m
      · have e0 := hc0 k (by omega)
        have e1 := hc1 k (by omega)
        have i0 : (k : Int) < (m : Int) := by omega
        have i1 : (k : Int) < (lb : Int) := by omega
        go_wp2
        go_quiet (fail)
        go_wp2
        · go_quiet (fail)
          go_wp2
          go_ret
          exact ⟨ret_bool (step_ne HM HS hlt (by assumption)), _, dd3 _ _ _ _⟩
        · go_roundw
          case rel => exact ⟨k + 1, by omega, by go_num, step_eqb HS hlt (by assumption), _, rfl⟩
          case measure => simp [intOf]; omega
      · go_wp2
        go_ret
        exact ⟨ret_bool (obs_hit HM (step_end HS hlt) rfl), _, rfl⟩

set_option maxHeartbeats 1000000 in
/-- .. where one of the two is empty. -/
theorem model_none (a0 a1 : Option Addr) (la ca lb cb : Nat) (x y : Nat → Int) (w : World) (hla : la ≤ 1024) (hlb : lb ≤ 1024) (h0 : la = 0 ∨ lb = 0) :
    Calls Yba.prog 10 #[.slice a0 la ca, .slice a1 lb cb] w fun e w' => e = .returned (.bool (obs x y la lb)) ∧ ∃ n, w' = w.drewN n := by
  have HO : Hid (false = obs x y la lb) := hide (obs_hit (m := 0) (hide (by omega)) rfl rfl)
  rcases Nat.lt_or_ge lb la with hlab | hlab
  · obtain rfl : lb = 0 := by omega
    go_enter Yba.func10, Yba.ntmps10
    go_wp2
    refine wp_loop_rounds 1 ?_
    rw [rounds_succ]
    go_wp2
    go_ret
    exact ⟨ret_bool HO.out, 0, rfl⟩
  · obtain rfl : la = 0 := by omega
    go_enter Yba.func10, Yba.ntmps10
    go_wp2
    refine wp_loop_rounds 1 ?_
    rw [rounds_succ]
    go_wp2
    go_ret
    exact ⟨ret_bool HO.out, 0, rfl⟩

theorem model_any (a0 a1 : Option Addr) (la ca lb cb : Nat) (x y : Nat → Int) (w : World) (hla : la ≤ 1024) (hlb : lb ≤ 1024) (h0 : Row w a0 la x) (h1 : Row w a1 lb y) :
    Calls Yba.prog 10 #[.slice a0 la ca, .slice a1 lb cb] w fun e w' => e = .returned (.bool (obs x y la lb)) ∧ ∃ n, w' = w.drewN n := by
  rcases h0 with h0 | ⟨b0, o0, rfl, h0⟩
  · exact model_none a0 a1 la ca lb cb x y w hla hlb (.inl h0)
  · rcases h1 with h1 | ⟨b1, o1, rfl, h1⟩
    · exact model_none _ a1 la ca lb cb x y w hla hlb (.inr h1)
    · exact model_rows la ca lb cb x y w hla hlb b0 o0 b1 o1 h0 h1

/-- Nothing but draws: nothing has turned. -/
theorem below_drewN' (w : World) (n : Nat) : Below w.heap.size w (w.drewN n) := below_drewN (Below.refl _ _) n

end Go.Proofs.Ybulkankc.Cmp
