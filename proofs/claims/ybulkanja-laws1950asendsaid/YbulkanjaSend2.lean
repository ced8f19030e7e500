/-
  THE WALKS on the road of group.LawS1950ASend: (*link).open (10), (*Member).sendLocked (5), zzs1950aone (6).
-/
import Derived.Test.YbulkanjaSend
namespace Go.Proofs.Ybulkanja.Chan
open Go.RowKit Go.Conc

theorem open_walk (A : Nat) (gone left : Bool) (w : World) (h7 : w.cell? ⟨A, 7, none⟩ = some (.bool gone)) (h8 : w.cell? ⟨A, 8, none⟩ = some (.bool left)) :
    Calls Yba.prog 10 #[.pointer (some ⟨A, 0, none⟩)] w fun e w' => e = .returned (.bool (!gone && !left)) ∧ w' = w := by
  cases gone <;> cases left
  all_goals
    go_enter Yba.func10, Yba.ntmps10
    go_wp2
    go_ret
    exact ⟨rfl, rfl⟩

theorem one_walk (b : Bool) (w : World) :
    Calls Yba.prog 6 #[.bool b] w fun e w' => e = .returned (.int .i64 (if b then 1 else 0)) ∧ w' = w := by
  cases b
  all_goals
    go_enter Yba.func6, Yba.ntmps6
    go_wp2
    go_ret
    exact ⟨rfl, rfl⟩

/-- What sendLocked leaves where it sends nothing. -/
structure Kept (w w' : World) (B : Nat) : Prop where
  blk : ∀ k, k < w.heap.size → w'.heap[k]? = w.heap[k]?
  bel : Below B w w'

theorem kept1 (w : World) (B : Nat) (hB : B ≤ w.heap.size) (o1 : Obj) : Kept w (w.alloc o1) B := ⟨fun _ hk => Below.heap_alloc _ _ _ hk, (Below.refl B w).alloc hB o1⟩
theorem kept2 (w : World) (B : Nat) (hB : B ≤ w.heap.size) (o1 o2 : Obj) : Kept w ((w.alloc o1).alloc o2) B :=
  ⟨fun _ hk => (Below.heap_alloc _ _ _ (by simp; omega)).trans (Below.heap_alloc _ _ _ hk), ((Below.refl B w).alloc hB o1).alloc (by simp; omega) o2⟩

set_option maxHeartbeats 3200000 in
theorem send_closed (B Mb A : Nat) (gone left stopped : Bool) (p q r : Value) (w : World) (hB : B ≤ w.heap.size)
    (h7 : w.cell? ⟨A, 7, none⟩ = some (.bool gone)) (h8 : w.cell? ⟨A, 8, none⟩ = some (.bool left)) (hst : w.cell? ⟨Mb, 66, none⟩ = some (.bool stopped)) (hcl : (!gone && !left && !stopped) = false) :
    Calls Yba.prog 5 #[.pointer (some ⟨Mb, 0, none⟩), .pointer (some ⟨A, 0, none⟩), .agg #[p, q, r]] w fun e w' => e = .returned (.tuple #[]) ∧ Kept w w' B := by
  have lA := World.block_lt_of_cell? w _ h7
  have lM := World.block_lt_of_cell? w _ hst
  cases gone <;> cases left <;> cases stopped <;> first | (exfalso; revert hcl; decide) | skip
  all_goals
    clear hcl
    go_enter Yba.func5, Yba.ntmps5
    go_wp2
    go_end0
  all_goals first | exact ⟨rfl, kept1 w B hB _⟩ | (go_wp2; go_end0; exact ⟨rfl, kept2 w B hB _ _⟩)

theorem queued_alloc {w w' : World} {B Mb A c base n : Nat} {xs : List Value} {v0 v1 v2 : Value} {bl' : Int} {o1 : Obj} (hB : B ≤ w.heap.size) (lA : A < w.heap.size) (lM : Mb < w.heap.size) (h : Queued (w.alloc o1) w' B Mb A c base n xs v0 v1 v2 bl') : Queued w w' B Mb A c base n xs v0 v1 v2 bl' :=
  ⟨h.own, h.c4, fun o h1 h2 => (h.cO o h1 h2).trans (World.cell?_alloc_past _ _ _ lA), fun o => (h.cM o).trans (World.cell?_alloc_past _ _ _ lM), h.ch, ((Below.refl B w).alloc hB o1).trans h.bel⟩

set_option maxHeartbeats 3200000 in
theorem send_open (B Mb A c base n : Nat) (ov : Value) (xs : List Value) (fa : Option Addr) (fl fc : Nat) (pk : Bool) (bd bl : Int) (buf : Array Value) (s r : Nat) (w : World)
    (h7 : w.cell? ⟨A, 7, none⟩ = some (.bool false)) (h8 : w.cell? ⟨A, 8, none⟩ = some (.bool false))
    (hst : w.cell? ⟨Mb, 66, none⟩ = some (.bool false)) (h3 : w.cell? ⟨A, 3, none⟩ = some ov) (h4 : w.cell? ⟨A, 4, none⟩ = some (.int .i64 bl)) (f3 : w.frozen? ⟨A, 3, none⟩ = false) (f4 : w.frozen? ⟨A, 4, none⟩ = false)
    (h6 : w.cell? ⟨A, 6, none⟩ = some (.chan (some c))) (hch : w.heap[c]? = some (.chan 1 buf false s r false)) (hbuf : buf = #[] ∨ buf = #[.agg #[]]) (hown : w.ownsRow base 25 3 ov n xs) (hA : ov.ownBlock ≠ some A) (hc : ov.ownBlock ≠ some c) (hM : ov.ownBlock ≠ some Mb)
    (hMA : Mb ≠ A) (hn : n ≤ 8) (hbase : base ≤ w.heap.size) (hBA : B ≤ A) (hBc : B ≤ c) (hBb : B ≤ base) :
    Calls Yba.prog 5 #[.pointer (some ⟨Mb, 0, none⟩), .pointer (some ⟨A, 0, none⟩), .agg #[.slice fa fl fc, .bool pk, .int .i64 bd]] w fun e w' => e = .returned (.tuple #[]) ∧ Queued w w' B Mb A c base n xs (.slice fa fl fc) (.bool pk) (.int .i64 bd) (wrap64 (bl + fl)) := by
  have lA := World.block_lt_of_cell? w _ h7
  have lM := World.block_lt_of_cell? w _ hst
  have lc : c < w.heap.size := (Array.getElem?_eq_some_iff.1 hch).1
  have Q := hide (queue_walk B Mb A c base n ov xs fa fl fc pk bd bl buf s r (w.alloc (.cells #[.slice fa fl fc, .bool pk, .int .i64 bd] 25)) ((World.cell?_alloc_past _ _ _ lM).trans hst) ((World.cell?_alloc_past _ _ _ lA).trans h3) ((World.cell?_alloc_past _ _ _ lA).trans h4)
    ((World.frozen?_alloc_past _ _ _ lA).trans f3) ((World.frozen?_alloc_past _ _ _ lA).trans f4) ((World.cell?_alloc_past _ _ _ lA).trans h6) ((Below.heap_alloc _ _ _ lc).trans hch) hbuf (hown.alloc _) hA hc hM hMA hn (by simp; omega) hBA hBc hBb)
  clear hch hbuf hown
  go_enter Yba.func5, Yba.ntmps5
  go_wp2_with fail
  refine (open_walk A false false _ ((World.cell?_alloc_past _ _ _ lA).trans h7) ((World.cell?_alloc_past _ _ _ lA).trans h8)).mono ?_
  rintro e w' ⟨rfl, rfl⟩
  simp only [Bool.not_false, Bool.and_self]
  go_wp2_with fail
  refine Q.out.mono ?_
  rintro e w' ⟨rfl, h⟩
  have QQ := hide (queued_alloc (by omega) lA lM h)
  clear h
  go_wp2
  go_end0
  exact ⟨rfl, QQ.out⟩
end Go.Proofs.Ybulkanja.Chan
