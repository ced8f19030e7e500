/-
  THE BASE of the walks over ordering's total: what a call leaves alone; (*zzs1950btr).Broadcast (28), (*zzs1950btr).Deliver (29).
-/
import Derived.Test.YbulkanjaFmtProg
import Derived.Test.YbulkanjaFmtMapsF
import Derived.WalkKit
import Derived.WalkLawsBesides
import Derived.WalkSpells
import Derived.WalkSmall
import Derived.OwnWalk
import Derived.Deep.QuietTactic
import Derived.BigQuiet
import Derived.Deep.RegionHeld3
import Derived.Deep.AppendLies
import Derived.Deep.RegionLaw
import Derived.Deep.LoopGhost
import Derived.Deep.DeepCutAuto
import Derived.OpenShut
import Derived.RegionTactic
import Derived.BigRegion
namespace Go.Proofs.YbulkanjaFmt.Tot
open Go.RowKit Go.Maps Go.Proofs.YbulkanjaFmt.MapsF

theorem hide {p : Prop} (h : p) : Hid p := h

/-- Outside S no block of w has turned. -/
structure Keeps (S : Nat → Prop) (w w' : World) : Prop where
  os : w'.os = w.os
  tape : w'.tape = w.tape
  output : w'.output = w.output
  size : w.heap.size ≤ w'.heap.size
  block : ∀ k, k < w.heap.size → ¬ S k → w'.heap[k]? = w.heap[k]?

section
variable {S S' : Nat → Prop} {a w w' : World}
theorem Keeps.refl (S : Nat → Prop) (w : World) : Keeps S w w := ⟨rfl, rfl, rfl, Nat.le_refl _, fun _ _ _ => rfl⟩
theorem Keeps.trans (h : Keeps S a w) (h' : Keeps S w w') : Keeps S a w' :=
  ⟨h'.os.trans h.os, h'.tape.trans h.tape, h'.output.trans h.output, Nat.le_trans h.size h'.size, fun k hk hs => (h'.block k (Nat.lt_of_lt_of_le hk h.size) hs).trans (h.block k hk hs)⟩
theorem Keeps.mono (h : Keeps S w w') (hs : ∀ k, k < w.heap.size → S k → S' k) : Keeps S' w w' := ⟨h.os, h.tape, h.output, h.size, fun k hk hk' => h.block k hk (fun h => hk' (hs k hk h))⟩
theorem Keeps.alloc (h : Keeps S a w) (o : Obj) : Keeps S a (w.alloc o) := h.trans ⟨rfl, rfl, rfl, by simp, fun k hk _ => Below.heap_alloc _ _ _ hk⟩
theorem Keeps.setCell (h : Keeps S a w) {p : Addr} (hp : S p.block) (u : Value) : Keeps S a (w.setCell p u) :=
  h.trans ⟨rfl, rfl, rfl, by simp [World.setCell], fun _ _ hs => Below.heap_setCell _ _ _ _ (fun e => hs (e ▸ hp))⟩
theorem Keeps.drew (h : Keeps S a w) : Keeps S a w.drew := ⟨h.os, h.tape, h.output, h.size, h.block⟩
theorem Keeps.drewN (h : Keeps S a w) (n : Nat) : Keeps S a (w.drewN n) := ⟨h.os, h.tape, h.output, h.size, h.block⟩
theorem Keeps.grown {row : Option Nat} (h : Keeps S a w) (hg : w.grownBy w' row) (hr : ∀ k, row = some k → S k) : Keeps S a w' :=
  h.trans ⟨hg.os, hg.tape, hg.output, hg.size, fun k hk hs => hg.block k hk (fun e => hs (hr k e.symm))⟩
theorem Keeps.below {B : Nat} (h : Keeps S w w') (hB : B ≤ w.heap.size) (hs : ∀ k, S k → B ≤ k) : Below B w w' :=
  ⟨h.os, h.tape, h.output, h.size, fun k hk => h.block k (by omega) (fun h' => by have := hs k h'; omega)⟩
theorem Keeps.turned {b : Nat} (h : Keeps S a w) (ht : w.mapTurned w' b) (hb : S b) : Keeps S a w' :=
  h.trans ⟨(turned_below (B := 0) (Below.refl 0 w) ht (Nat.zero_le _)).os, (turned_below (B := 0) (Below.refl 0 w) ht (Nat.zero_le _)).tape, (turned_below (B := 0) (Below.refl 0 w) ht (Nat.zero_le _)).output, Nat.le_of_eq (turned_size ht).symm, fun _ _ hs => turned_block ht (fun e => hs (e ▸ hb))⟩
end

theorem own_ne {w : World} {base e size : Nat} {v : Value} {n : Nat} {xs : List Value} (h : w.ownsRow base e size v n xs) {k : Nat} {cs : Array Value} {t : TypeId} {fr : Nat × Nat} (hb : w.heap[k]? = some (.cells cs t fr)) (ht : t ≠ e) : v.ownBlock ≠ some k := by
  obtain ⟨_, ⟨rfl, _⟩ | ⟨g, cap, cur, rfl, _, hg, _⟩⟩ := h
  · simp [Value.ownBlock]
  · intro hk
    simp [Value.ownBlock] at hk
    subst hk
    rw [hg] at hb
    simp at hb
    exact ht hb.2.1.symm
theorem own_new {w : World} {base e size : Nat} {v : Value} {n : Nat} {xs : List Value} (h : w.ownsRow base e size v n xs) : some w.heap.size ≠ v.ownBlock := by
  obtain ⟨_, ⟨rfl, _⟩ | ⟨g, cap, cur, rfl, _, hg, _⟩⟩ := h
  · simp [Value.ownBlock]
  · have := (Array.getElem?_eq_some_iff.1 hg).1
    simp [Value.ownBlock]; omega
theorem own_of_block {w w' : World} {base e size n : Nat} {v : Value} {xs : List Value} (h : w.ownsRow base e size v n xs) (hb : ∀ k, v.ownBlock = some k → w'.heap[k]? = w.heap[k]?) : w'.ownsRow base e size v n xs := by
  obtain ⟨h1, h2 | ⟨g, cap', cur, rfl, h3, h4, r⟩⟩ := h
  · exact ⟨h1, .inl h2⟩
  · exact ⟨h1, .inr ⟨g, cap', cur, rfl, h3, (hb g rfl).trans h4, r⟩⟩

theorem Ybaf.info51 : (Ybaf.prog.info? 51).map (fun i => (i.zero, i.size, i.bytes)) = some (some (.agg #[.int .u8 0, .int .u64 0, .int .i64 0, .int .u64 0, .int .u64 0, .slice none 0 0, .slice none 0 0, .slice none 0 0, .slice none 0 0, .slice none 0 0, .slice none 0 0, .slice none 0 0, .int .u64 0, .int .u64 0, .slice none 0 0, .slice none 0 0, .slice none 0 0]), 17, 296) := by kernel_rfl
theorem Ybaf.info46 : (Ybaf.prog.info? 46).map (fun i => (i.zero, i.size, i.bytes)) = some (some (.agg #[.int .i64 0, .int .i64 0]), 2, 16) := by kernel_rfl

/-- A Place packet's cells. -/
def pkt (seq num snd : Int) : List Value := [.int .u8 2, .int .u64 num, .int .i64 snd, .int .u64 seq, .int .u64 0, .slice none 0 0, .slice none 0 0, .slice none 0 0, .slice none 0 0, .slice none 0 0, .slice none 0 0, .slice none 0 0, .int .u64 0, .int .u64 0, .slice none 0 0, .slice none 0 0, .slice none 0 0]

theorem news_pk (w : World) (b : Nat) (seq num snd : Int) (h : w.heap[b]? = some (.cells (pkt seq num snd).toArray 51)) : ∀ j u, (pkt seq num snd)[j]? = some u → w.cell? ((⟨b, 0, none⟩ : Addr).add j) = some u :=
  World.news_of_block (cs := (pkt seq num snd).toArray) (t := 51) (fr := (0, 0)) h

/-- Where the new row of an append lies. -/
def Moved (w : World) (v v' : Value) : Prop := v'.ownBlock = v.ownBlock ∨ ∀ k, v'.ownBlock = some k → w.heap.size ≤ k

/-- 'x.f = append(x.f, ..)', behind the store. -/
theorem append_end {w w1 : World} {T base n e size gg cap off m : Nat} {t : TypeId} {cs : Array Value} {ov : Value} {xs ys : List Value} {o1 o2 : Obj} (hT : w.heap[T]? = some (.cells cs t)) (ht : t ≠ e) (hown : w.ownsRow base e size ov n xs) (lT : T < w.heap.size)
    (hgrow : (((w.alloc o1).alloc o2).drew).grownBy w1 ov.ownBlock) (hat : ov.ownBlock = some gg ∨ gg = w.heap.size + 1 + 1) (hown1 : w1.ownsRow base e size (.slice (some ⟨gg, 0, none⟩) m cap) m ys) :
    (w1.setCell ⟨T, off, none⟩ (.slice (some ⟨gg, 0, none⟩) m cap)).heap[T]? = some (.cells (cs.setIfInBounds off (.slice (some ⟨gg, 0, none⟩) m cap)) t) ∧
    (w1.setCell ⟨T, off, none⟩ (.slice (some ⟨gg, 0, none⟩) m cap)).ownsRow base e size (.slice (some ⟨gg, 0, none⟩) m cap) m ys ∧
    Keeps (fun k => k = T ∨ some k = ov.ownBlock) w (w1.setCell ⟨T, off, none⟩ (.slice (some ⟨gg, 0, none⟩) m cap)) ∧ Moved w ov (.slice (some ⟨gg, 0, none⟩) m cap) := by
  have hTo : ov.ownBlock ≠ some T := own_ne hown hT ht
  have hb1 : w1.heap[T]? = w.heap[T]? := by
    rw [hgrow.block T (by simp; omega) (Ne.symm hTo)]
    show ((w.alloc o1).alloc o2).heap[T]? = _
    rw [Below.heap_alloc _ _ _ (by simp; omega), Below.heap_alloc _ _ _ lT]
  have hgT : gg ≠ T := fun h => own_ne hown1 (hb1.trans hT) ht (by rw [h]; rfl)
  refine ⟨heap_setCell_same w1 T off cs t _ (hb1.trans hT), own_of_block hown1 (fun k hk => Below.heap_setCell _ _ _ _ ?_), ?_, ?_⟩
  · simp [Value.ownBlock] at hk
    exact fun h => hgT (hk.trans h)
  · exact ((((Keeps.refl _ w).alloc o1).alloc o2).drew.grown hgrow (fun k hk => .inr hk.symm)).setCell (p := ⟨T, off, none⟩) (.inl rfl) _
  · rcases hat with h | h
    · exact .inl h.symm
    · refine .inr fun k hk => ?_
      simp [Value.ownBlock] at hk
      omega

set_option maxRecDepth 100000 in
set_option maxHeartbeats 3200000 in
theorem bcast_any (T base n : Nat) (bv dv : Value) (xs : List Value) (seq num snd : Int) (w : World) (hT : w.heap[T]? = some (.cells #[bv, dv] 28)) (hown : w.ownsRow base 51 17 bv n xs) (hbase : base ≤ w.heap.size) (hn : n ≤ 10000) :
    Calls Ybaf.prog 28 #[.pointer (some ⟨T, 0, none⟩), .agg #[.int .u8 2, .int .u64 num, .int .i64 snd, .int .u64 seq, .int .u64 0, .slice none 0 0, .slice none 0 0, .slice none 0 0, .slice none 0 0, .slice none 0 0, .slice none 0 0, .slice none 0 0, .int .u64 0, .int .u64 0, .slice none 0 0, .slice none 0 0, .slice none 0 0]] w
      fun e w' => e = .returned (.tuple #[]) ∧ ∃ bv', w'.heap[T]? = some (.cells #[bv', dv] 28) ∧ w'.ownsRow base 51 17 bv' (n + 1) (xs ++ pkt seq num snd) ∧ Keeps (fun k => k = T ∨ some k = bv.ownBlock) w w' ∧ Moved w bv bv' := by
  obtain ⟨i0, hi0, hz0, hz1, hz2⟩ := info_parts Ybaf.info51
  have hc : w.cell? ⟨T, 0, none⟩ = some bv := cell_of_row w T 0 _ _ _ hT
  have hf : w.frozen? ⟨T, 0, none⟩ = false := by simp [World.frozen?, hT]
  have lT : T < w.heap.size := World.block_lt_of_cell? w _ hc
  have hTo : bv.ownBlock ≠ some T := own_ne hown hT (by decide)
  have hWo : some w.heap.size ≠ bv.ownBlock := own_new hown
  have HT := hide hT
  clear hT
  go_enter Ybaf.func28, Ybaf.ntmps28
  go_wp2_with fail
  have hpk := heap_alloc_new (w.alloc (.cells (pkt seq num snd).toArray 51)) (.cells (pkt seq num snd).toArray 51)
  simp only [World.size_alloc] at hpk
  have HPK := hide (news_pk (((w.alloc (.cells (pkt seq num snd).toArray 51)).alloc (.cells (pkt seq num snd).toArray 51)).drew) (w.heap.size + 1) seq num snd hpk)
  have HO := hide hown
  clear hpk hown
  go_region_law (refine step_append_lies _ (by rfl) _ _ _ (by rfl) base 51 i0 _ 17 296 Ybaf.underlying25 hi0 hz0 hz1 hz2 rfl (by omega) bv n xs (by rfl) (((HO.out.alloc _).alloc _).drew) ⟨w.heap.size + 1, 0, none⟩ 1 1 (pkt seq num snd) (by rfl) (by rfl) HPK.out (by simp [pkt, Value.oneCell']) (by omega) (by unfold maxLen; omega) (by omega) (by simp; omega) (w.heap.size + 1 + 1) (by simp) ?_; intro gg cap w1 hown1 hgrow hat hlt; have hcT := fun o => hgrow.cell_far ⟨T, o, none⟩ (by simp; omega) (Ne.symm hTo); have hfT := fun o => hgrow.frozen_far ⟨T, o, none⟩ (by simp; omega) (Ne.symm hTo); have hcW := fun o => hgrow.cell_far ⟨w.heap.size, o, none⟩ (by simp; omega) hWo)
  all_goals
    have HG := hide hgrow
    have HAT := hide hat
    have HOW := hide hown1
    clear hgrow hat hown1
    clear hcT hfT hcW
    obtain ⟨e1, e2, e3, e4⟩ := append_end (off := 0) HT.out (by decide) HO.out lT HG.out HAT.out HOW.out
    go_end0
    exact ⟨rfl, _, e1, e2, e3, e4⟩
end Go.Proofs.YbulkanjaFmt.Tot
