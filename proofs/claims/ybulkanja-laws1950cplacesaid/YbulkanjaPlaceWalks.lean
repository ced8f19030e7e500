/-
  THE WALKS on the road of ordering.LawS1950CPlace: (*zzs1950ctr).Broadcast (40), zzs1950chas (9), (*total).place (8).
-/
import Derived.Test.YbulkanjaProg
import Derived.Test.YbulkanjaMapsF
import Derived.WalkKit
import Derived.WalkLawsBesides
import Derived.WalkSpells
import Derived.WalkSmall
import Derived.OwnWalk
import Derived.Deep.QuietTactic
import Derived.BigQuiet
import Derived.Deep.RegionHeld3
import Derived.Deep.AppendLies
import Derived.Deep.RegionLaw
namespace Go.Proofs.Ybulkanja.Place
open Go.RowKit Go.Maps Go.Proofs.Ybulkanja.MapsF

theorem hide {p : Prop} (h : p) : Hid p := h

theorem Yba.info107 : (Yba.prog.info? 107).map (fun i => (i.zero, i.size, i.bytes)) = some (some (.agg #[.int .u8 0, .int .u64 0, .int .i64 0, .int .u64 0, .int .u64 0, .slice none 0 0, .slice none 0 0, .slice none 0 0, .slice none 0 0, .slice none 0 0, .slice none 0 0, .slice none 0 0, .int .u64 0, .int .u64 0, .slice none 0 0, .slice none 0 0, .slice none 0 0]), 17, 296) := by kernel_rfl

/-- A store at one place, on two worlds that agree below B. -/
theorem below_setCell2 {B : Nat} {w w1 : World} (h : Below B w w1) (a : Addr) (u : Value) : Below B (w.setCell a u) (w1.setCell a u) := by
  refine ⟨h.os, h.tape, h.output, by simpa [World.setCell] using h.size, fun k hk => ?_⟩
  simp only [World.setCell, Array.getElem?_modify]
  rw [h.block k hk]

/-- A Place packet's cells. -/
def pkt (seq num snd : Int) : List Value := [.int .u8 2, .int .u64 num, .int .i64 snd, .int .u64 seq, .int .u64 0, .slice none 0 0, .slice none 0 0, .slice none 0 0, .slice none 0 0, .slice none 0 0, .slice none 0 0, .slice none 0 0, .int .u64 0, .int .u64 0, .slice none 0 0, .slice none 0 0, .slice none 0 0]

theorem own_ne {w : World} {base e size : Nat} {v : Value} {n : Nat} {xs : List Value} (h : w.ownsRow base e size v n xs) {T : Nat} (hT : T < base) : v.ownBlock ≠ some T := by
  obtain ⟨_, ⟨rfl, _⟩ | ⟨g, cap, cur, rfl, hg, _⟩⟩ := h
  · simp [Value.ownBlock]
  · simp [Value.ownBlock]; omega
theorem own_new {w : World} {base e size : Nat} {v : Value} {n : Nat} {xs : List Value} (h : w.ownsRow base e size v n xs) : some w.heap.size ≠ v.ownBlock := by
  obtain ⟨_, ⟨rfl, _⟩ | ⟨g, cap, cur, rfl, _, hg, _⟩⟩ := h
  · simp [Value.ownBlock]
  · have := (Array.getElem?_eq_some_iff.1 hg).1
    simp [Value.ownBlock]; omega

theorem own_ge {w : World} {base e size : Nat} {v : Value} {n : Nat} {xs : List Value} (h : w.ownsRow base e size v n xs) (k : Nat) (hk : v.ownBlock = some k) : base ≤ k := by
  obtain ⟨_, ⟨rfl, _⟩ | ⟨g, cap, cur, rfl, hg, _⟩⟩ := h
  · simp [Value.ownBlock] at hk
  · simp [Value.ownBlock] at hk; omega

theorem grown_below {w w1 : World} {base e size : Nat} {v : Value} {n : Nat} {xs : List Value} (h : w.ownsRow base e size v n xs) (hbase : base ≤ w.heap.size) {o1 o2 : Obj} (hg : (((w.alloc o1).alloc o2).drew).grownBy w1 v.ownBlock) : Below base w w1 :=
  ((((Below.refl base w).alloc hbase o1).alloc (by simp; omega) o2).drew).grown hg (by simp; omega) (fun k hk => own_ge h k hk)

theorem news_pk (w : World) (b : Nat) (seq num snd : Int) (h : w.heap[b]? = some (.cells (pkt seq num snd).toArray 107)) : ∀ j u, (pkt seq num snd)[j]? = some u → w.cell? ((⟨b, 0, none⟩ : Addr).add j) = some u :=
  World.news_of_block (cs := (pkt seq num snd).toArray) (t := 107) (fr := (0, 0)) h

set_option maxRecDepth 100000 in
set_option maxHeartbeats 3200000 in
theorem bcast_any (T base n : Nat) (ov : Value) (xs : List Value) (seq num snd : Int) (w : World) (hc : w.cell? ⟨T, 0, none⟩ = some ov) (hf : w.frozen? ⟨T, 0, none⟩ = false) (hown : w.ownsRow base 107 17 ov n xs)
    (hT : T < base) (hbase : base ≤ w.heap.size) (hn : n ≤ 1000) :
    Calls Yba.prog 40 #[.pointer (some ⟨T, 0, none⟩), .agg #[.int .u8 2, .int .u64 num, .int .i64 snd, .int .u64 seq, .int .u64 0, .slice none 0 0, .slice none 0 0, .slice none 0 0, .slice none 0 0, .slice none 0 0, .slice none 0 0, .slice none 0 0, .int .u64 0, .int .u64 0, .slice none 0 0, .slice none 0 0, .slice none 0 0]] w
      fun e w' => e = .returned (.tuple #[]) ∧ ∃ gg cap, Below base (w.setCell ⟨T, 0, none⟩ (.slice (some ⟨gg, 0, none⟩) (n + 1) cap)) w' ∧ w'.ownsRow base 107 17 (.slice (some ⟨gg, 0, none⟩) (n + 1) cap) (n + 1) (xs ++ pkt seq num snd) := by
  obtain ⟨i0, hi0, hz0, hz1, hz2⟩ := info_parts Yba.info107
  have lT := World.block_lt_of_cell? w _ hc
  have hTo : ov.ownBlock ≠ some T := own_ne hown hT
  have hWo : some w.heap.size ≠ ov.ownBlock := own_new hown
  go_enter Yba.func40, Yba.ntmps40
  go_wp2_with fail
  have hpk := heap_alloc_new (w.alloc (.cells (pkt seq num snd).toArray 107)) (.cells (pkt seq num snd).toArray 107)
  simp only [World.size_alloc] at hpk
  have HPK := hide (news_pk (((w.alloc (.cells (pkt seq num snd).toArray 107)).alloc (.cells (pkt seq num snd).toArray 107)).drew) (w.heap.size + 1) seq num snd hpk)
  have HO := hide hown
  clear hpk hown
  go_region_law (refine step_append_lies _ (by rfl) _ _ _ (by rfl) base 107 i0 _ 17 296 Yba.underlying87 hi0 hz0 hz1 hz2 rfl (by omega) ov n xs (by rfl) (((HO.out.alloc _).alloc _).drew) ⟨w.heap.size + 1, 0, none⟩ 1 1 (pkt seq num snd) (by rfl) (by rfl) HPK.out (by simp [pkt, Value.oneCell']) (by omega) (by unfold maxLen; omega) (by omega) (by simp; omega) (w.heap.size + 1 + 1) (by simp) ?_; intro gg cap w1 hown1 hgrow hat hlt; have hcT := hgrow.cell_far ⟨T, 0, none⟩ (by simp; omega) (Ne.symm hTo); have hfT := hgrow.frozen_far ⟨T, 0, none⟩ (by simp; omega) (Ne.symm hTo))
  all_goals
    clear hcT hfT
    go_end0
    exact ⟨rfl, gg, cap, below_setCell2 (grown_below HO.out hbase hgrow) _ _, ownsRow_setCell_below hown1 (a := ⟨T, 0, none⟩) hT _⟩
end Go.Proofs.Ybulkanja.Place
