/-
  THE WALKS on the road of group.LawS1950ASend: (*link).open (10), (*Member).queueLocked (11), (*Member).sendLocked (5).
-/
import Derived.Test.YbulkanjaChan
import Derived.WalkLawsBesides
import Derived.WalkSpells
import Derived.WalkSmall
import Derived.OwnWalk
import Derived.RegionTactic
import Derived.BigRegion
import Derived.Deep.AppendLies
import Derived.Deep.RegionLaw
namespace Go.Proofs.Ybulkanja.Chan
open Go.RowKit Go.Conc

theorem hide {p : Prop} (h : p) : Hid p := h
theorem Yba.info25 : (Yba.prog.info? 25).map (fun i => (i.zero, i.size, i.bytes)) = some (some (.agg #[.slice none 0 0, .bool false, .int .i64 0]), 3, 40) := by kernel_rfl

theorem own_new {w : World} {base e size : Nat} {v : Value} {n : Nat} {xs : List Value} (h : w.ownsRow base e size v n xs) : some w.heap.size ≠ v.ownBlock := by
  obtain ⟨_, ⟨rfl, _⟩ | ⟨g, cap, cur, rfl, _, hg, _⟩⟩ := h
  · simp [Value.ownBlock]
  · have := (Array.getElem?_eq_some_iff.1 hg).1
    simp [Value.ownBlock]; omega

theorem news25 (w : World) (b : Nat) (p q r : Value) (h : w.heap[b]? = some (.cells #[p, q, r] 25)) : ∀ j u, ([p, q, r] : List Value)[j]? = some u → w.cell? ((⟨b, 0, none⟩ : Addr).add j) = some u :=
  World.news_of_block (cs := #[p, q, r]) (t := 25) (fr := (0, 0)) h

theorem own_of_block {w w' : World} {base e size g n cap : Nat} {xs : List Value} (h : w.ownsRow base e size (.slice (some ⟨g, 0, none⟩) n cap) n xs) (hb : w'.heap[g]? = w.heap[g]?) : w'.ownsRow base e size (.slice (some ⟨g, 0, none⟩) n cap) n xs := by
  obtain ⟨h1, ⟨h2, _⟩ | ⟨g', cap', cur, h2, h3, h4, r⟩⟩ := h
  · cases h2
  · cases h2
    exact ⟨h1, .inr ⟨g, cap, cur, rfl, h3, hb.trans h4, r⟩⟩

theorem far {w : World} {b o b' o' : Nat} {v : Value} (h : b' ≠ b) : (w.setCell ⟨b, o, none⟩ v).cell? ⟨b', o', none⟩ = w.cell? ⟨b', o', none⟩ := World.cell?_setCell_other _ _ _ _ (fun e => by cases e; exact h rfl)
theorem beside {w : World} {b o o' : Nat} {v : Value} (h : o' ≠ o) : (w.setCell ⟨b, o, none⟩ v).cell? ⟨b, o', none⟩ = w.cell? ⟨b, o', none⟩ := World.cell?_setCell_other _ _ _ _ (fun e => by cases e; exact h rfl)
theorem chan_other {w : World} {c k cap s r : Nat} {buf : Array Value} {cl tm : Bool} (h : k ≠ c) : (w.setChan c cap buf cl s r tm).heap[k]? = w.heap[k]? := by
  have : c ≠ k := fun e => h e.symm
  simp [World.setChan, Array.getElem?_setIfInBounds_ne this]
theorem chan_cell {w : World} {c b o cap s r : Nat} {buf : Array Value} {cl tm : Bool} (h : b ≠ c) : (w.setChan c cap buf cl s r tm).cell? ⟨b, o, none⟩ = w.cell? ⟨b, o, none⟩ := World.cell?_of_block (w := w) (a := ⟨b, o, none⟩) (chan_other h)

/-- What queueLocked leaves. -/
structure Queued (w w' : World) (B Mb A c base n : Nat) (xs : List Value) (v0 v1 v2 : Value) (bl' : Int) : Prop where
  own : ∃ gg cap, w'.cell? ⟨A, 3, none⟩ = some (.slice (some ⟨gg, 0, none⟩) (n + 1) cap) ∧ w'.ownsRow base 25 3 (.slice (some ⟨gg, 0, none⟩) (n + 1) cap) (n + 1) (xs ++ [v0, v1, v2])
  c4 : w'.cell? ⟨A, 4, none⟩ = some (.int .i64 bl')
  cO : ∀ o, o ≠ 3 → o ≠ 4 → w'.cell? ⟨A, o, none⟩ = w.cell? ⟨A, o, none⟩
  cM : ∀ o, w'.cell? ⟨Mb, o, none⟩ = w.cell? ⟨Mb, o, none⟩
  ch : ∃ s r, w'.heap[c]? = some (.chan 1 #[.agg #[]] false s r false)
  bel : Below B w w'

/-- .. from the world behind the append (w1), the two stores and the channel's turn. -/
theorem queued_of {w w1 w5 : World} {B Mb A c base n gg cap : Nat} {ov : Value} {xs : List Value} {v0 v1 v2 : Value} {bl' : Int} {o1 o2 : Obj} {x4 : Value}
    (h3 : w.cell? ⟨A, 3, none⟩ = some ov) (h4 : w.cell? ⟨A, 4, none⟩ = some x4) (lM : Mb < w.heap.size) (lA : A < w.heap.size) (lc : c < w.heap.size) (hA : ov.ownBlock ≠ some A) (hc : ov.ownBlock ≠ some c) (hM : ov.ownBlock ≠ some Mb) (hMA : Mb ≠ A) (hcA : c ≠ A) (hcM : c ≠ Mb)
    (hBA : B ≤ A) (hBc : B ≤ c) (hBb : B ≤ base) (_hbase : base ≤ w.heap.size) (hown0 : w.ownsRow base 25 3 ov n xs)
    (hown1 : w1.ownsRow base 25 3 (.slice (some ⟨gg, 0, none⟩) (n + 1) cap) (n + 1) (xs ++ [v0, v1, v2])) (hgrow : (((w.alloc o1).alloc o2).drew).grownBy w1 ov.ownBlock) (hat : ov.ownBlock = some gg ∨ gg = w.heap.size + 1 + 1)
    (hw5 : w5 = ((w1.setCell ⟨A, 3, none⟩ (.slice (some ⟨gg, 0, none⟩) (n + 1) cap)).setCell ⟨A, 4, none⟩ (.int .i64 bl')).drew) :
    (∀ s r, w5.heap[c]? = some (.chan 1 #[.agg #[]] false s r false) → Queued w w5 B Mb A c base n xs v0 v1 v2 bl') ∧
    (∀ buf s r s' r', w5.heap[c]? = some (.chan 1 buf false s r false) → Queued w (w5.setChan c 1 #[.agg #[]] false s' r' false) B Mb A c base n xs v0 v1 v2 bl') ∧ w5.heap[c]? = w.heap[c]? ∧ w5.cell? ⟨A, 6, none⟩ = w.cell? ⟨A, 6, none⟩ := by
  have hgA : gg ≠ A := by
    rcases hat with h | h
    · exact fun e => hA (e ▸ h)
    · omega
  have hgc : gg ≠ c := by
    rcases hat with h | h
    · exact fun e => hc (e ▸ h)
    · omega
  have cellA : ∀ o, w1.cell? ⟨A, o, none⟩ = w.cell? ⟨A, o, none⟩ := fun o => by
    rw [hgrow.cell_far ⟨A, o, none⟩ (by simp; omega) (Ne.symm hA)]
    show ((w.alloc o1).alloc o2).cell? _ = _
    rw [World.cell?_alloc_past _ _ _ (by simp; omega), World.cell?_alloc_past _ _ _ lA]
  have cellM : ∀ o, w1.cell? ⟨Mb, o, none⟩ = w.cell? ⟨Mb, o, none⟩ := fun o => by
    rw [hgrow.cell_far ⟨Mb, o, none⟩ (by simp; omega) (Ne.symm hM)]
    show ((w.alloc o1).alloc o2).cell? _ = _
    rw [World.cell?_alloc_past _ _ _ (by simp; omega), World.cell?_alloc_past _ _ _ lM]
  have blkc : w1.heap[c]? = w.heap[c]? := by
    rw [hgrow.block c (by simp; omega) (Ne.symm hc)]
    show ((w.alloc o1).alloc o2).heap[c]? = _
    rw [Below.heap_alloc _ _ _ (by simp; omega), Below.heap_alloc _ _ _ lc]
  have blkc5 : w5.heap[c]? = w.heap[c]? := by
    rw [hw5]
    show ((w1.setCell _ _).setCell _ _).heap[c]? = _
    rw [Below.heap_setCell _ _ _ _ hcA, Below.heap_setCell _ _ _ _ hcA, blkc]
  have c3 : w5.cell? ⟨A, 3, none⟩ = some (.slice (some ⟨gg, 0, none⟩) (n + 1) cap) := by
    rw [hw5]
    show ((w1.setCell _ _).setCell _ _).cell? _ = _
    rw [beside (by decide)]
    exact World.cell?_setCell_same _ _ _ ((cellA 3).trans h3)
  have c4 : w5.cell? ⟨A, 4, none⟩ = some (.int .i64 bl') := by
    rw [hw5]
    show ((w1.setCell _ _).setCell _ _).cell? _ = _
    refine World.cell?_setCell_same _ _ _ (u := x4) ?_
    rw [beside (by decide), cellA 4]
    exact h4
  have cO : ∀ o, o ≠ 3 → o ≠ 4 → w5.cell? ⟨A, o, none⟩ = w.cell? ⟨A, o, none⟩ := fun o h1 h2 => by
    rw [hw5]
    show ((w1.setCell _ _).setCell _ _).cell? _ = _
    rw [beside h2, beside h1, cellA o]
  have cM : ∀ o, w5.cell? ⟨Mb, o, none⟩ = w.cell? ⟨Mb, o, none⟩ := fun o => by
    rw [hw5]
    show ((w1.setCell _ _).setCell _ _).cell? _ = _
    rw [far hMA, far hMA, cellM o]
  have own5 : w5.ownsRow base 25 3 (.slice (some ⟨gg, 0, none⟩) (n + 1) cap) (n + 1) (xs ++ [v0, v1, v2]) := by
    refine own_of_block hown1 ?_
    rw [hw5]
    show ((w1.setCell _ _).setCell _ _).heap[gg]? = _
    rw [Below.heap_setCell _ _ _ _ hgA, Below.heap_setCell _ _ _ _ hgA]
  have hgr : ∀ k, ov.ownBlock = some k → B ≤ k := fun k hk => by
    obtain ⟨_, ⟨h, _⟩ | ⟨g, cap', cur, h, hg, _⟩⟩ := hown0
    · rw [h] at hk; simp [Value.ownBlock] at hk
    · rw [h] at hk; simp [Value.ownBlock] at hk; omega
  have bel1 : Below B w w1 := ((((Below.refl B w).alloc (by omega) o1).alloc (by simp; omega) o2).drew).grown hgrow (by simp; omega) hgr
  have bel5 : Below B w w5 := by
    rw [hw5]
    exact ((bel1.setCell (p := ⟨A, 3, none⟩) hBA _).setCell (p := ⟨A, 4, none⟩) hBA _).drew
  have lc5 : c < w5.heap.size := by have := bel5.size; omega
  refine ⟨fun s r h => ⟨⟨gg, cap, c3, own5⟩, c4, cO, cM, ⟨s, r, h⟩, bel5⟩, fun buf s r s' r' h => ⟨⟨gg, cap, (chan_cell hcA.symm).trans c3, own_of_block own5 (chan_other hgc)⟩, (chan_cell hcA.symm).trans c4, fun o h1 h2 => (chan_cell hcA.symm).trans (cO o h1 h2), fun o => (chan_cell hcM.symm).trans (cM o), ⟨s', r', heap_setChan _ _ _ _ _ _ _ _ lc5⟩, below_setChan bel5 hBc _ _ _ _ _ _⟩, blkc5, cO 6 (by decide) (by decide)⟩

set_option maxRecDepth 100000 in
set_option maxHeartbeats 3200000 in
theorem queue_walk (B Mb A c base n : Nat) (ov : Value) (xs : List Value) (fa : Option Addr) (fl fc : Nat) (pk : Bool) (bd bl : Int) (buf : Array Value) (s r : Nat) (w : World)
    (hst : w.cell? ⟨Mb, 66, none⟩ = some (.bool false)) (h3 : w.cell? ⟨A, 3, none⟩ = some ov) (h4 : w.cell? ⟨A, 4, none⟩ = some (.int .i64 bl)) (f3 : w.frozen? ⟨A, 3, none⟩ = false) (f4 : w.frozen? ⟨A, 4, none⟩ = false)
    (h6 : w.cell? ⟨A, 6, none⟩ = some (.chan (some c))) (hch : w.heap[c]? = some (.chan 1 buf false s r false)) (hbuf : buf = #[] ∨ buf = #[.agg #[]]) (hown : w.ownsRow base 25 3 ov n xs) (hA : ov.ownBlock ≠ some A) (hc : ov.ownBlock ≠ some c) (hM : ov.ownBlock ≠ some Mb)
    (hMA : Mb ≠ A) (hn : n ≤ 8) (hbase : base ≤ w.heap.size) (hBA : B ≤ A) (hBc : B ≤ c) (hBb : B ≤ base) :
    Calls Yba.prog 11 #[.pointer (some ⟨Mb, 0, none⟩), .pointer (some ⟨A, 0, none⟩), .agg #[.slice fa fl fc, .bool pk, .int .i64 bd]] w fun e w' => e = .returned (.tuple #[]) ∧ Queued w w' B Mb A c base n xs (.slice fa fl fc) (.bool pk) (.int .i64 bd) (wrap64 (bl + fl)) := by
  obtain ⟨i0, hi0, hz0, hz1, hz2⟩ := info_parts Yba.info25
  have lA := World.block_lt_of_cell? w _ h3
  have lM := World.block_lt_of_cell? w _ hst
  have lc : c < w.heap.size := (Array.getElem?_eq_some_iff.1 hch).1
  have hneA : c ≠ A := fun e => by rw [e] at hch; simp [World.cell?, hch] at h3
  have hneM : c ≠ Mb := fun e => by rw [e] at hch; simp [World.cell?, hch] at hst
  have hW := own_new hown
  have HO := hide hown
  have HCH := hide hch
  have HBUF := hide hbuf
  clear hown hch hbuf
  go_enter Yba.func11, Yba.ntmps11
  go_wp2
  have hpk := heap_alloc_new (w.alloc (.cells #[.slice fa fl fc, .bool pk, .int .i64 bd] 25)) (.cells #[.slice fa fl fc, .bool pk, .int .i64 bd] 25)
  simp only [World.size_alloc] at hpk
  have HPK := hide (news25 (((w.alloc (.cells #[.slice fa fl fc, .bool pk, .int .i64 bd] 25)).alloc (.cells #[.slice fa fl fc, .bool pk, .int .i64 bd] 25)).drew) (w.heap.size + 1) _ _ _ hpk)
  clear hpk
  go_region_law (refine step_append_lies _ (by rfl) _ _ _ (by rfl) base 25 i0 _ 3 40 Yba.underlying23 hi0 hz0 hz1 hz2 rfl (by omega) ov n xs (by rfl) (((HO.out.alloc _).alloc _).drew) ⟨w.heap.size + 1, 0, none⟩ 1 1 [.slice fa fl fc, .bool pk, .int .i64 bd] (by rfl) (by rfl) HPK.out (by simp [Value.oneCell']) (by omega) (by unfold maxLen; omega) (by omega) (by simp; omega) (w.heap.size + 1 + 1) (by simp) ?_; intro gg cap w1 hown1 hgrow hat hlt; have hcA := fun o => hgrow.cell_far ⟨A, o, none⟩ (by simp; omega) (Ne.symm hA); have hfA := fun o => hgrow.frozen_far ⟨A, o, none⟩ (by simp; omega) (Ne.symm hA); have hcB := fun o => hgrow.cell_far ⟨w.heap.size, o, none⟩ (by simp; omega) hW)
  all_goals
    have HOWN := hide hown1
    have HGR := hide hgrow
    have HAT := hide hat
    have lA1 : A ≠ w.heap.size := by omega
    have lA2 : w.heap.size ≠ A := by omega
    clear hown1 hgrow hat
    go_wp2
    go_region
    go_wp2_with fail
    obtain ⟨w5, hw5⟩ : ∃ w5, w5 = ((w1.setCell ⟨A, 3, none⟩ (.slice (some ⟨gg, 0, none⟩) (n + 1) cap)).setCell ⟨A, 4, none⟩ (.int .i64 (wrap64 (bl + (fl : Int))))).drew := ⟨_, rfl⟩
    obtain ⟨q1, q2, q3, q4⟩ := queued_of (B := B) (Mb := Mb) h3 h4 lM lA lc hA hc hM hMA hneA hneM hBA hBc hBb hbase HO.out HOWN.out HGR.out HAT.out hw5
    rw [HCH.out] at q3
    rw [h6] at q4
    rw [← hw5]
    have Q1 := hide q1
    have Q2 := hide q2
    rcases HBUF.out with hbu | hbu
    · rw [hbu] at q3
      refine (wake_room A c s r w5 q4 q3).mono ?_
      rintro e w6 ⟨rfl, hw6⟩
      have QQ := hide (Q2.out _ _ _ (s + 1) r q3)
      rw [← hw6] at QQ
      clear hw5 hw6 q1 q2 q3 q4 hbu
      go_wp2
      go_end0
      exact ⟨rfl, QQ.out⟩
    · rw [hbu] at q3
      refine (wake_full A c s r w5 q4 q3).mono ?_
      rintro e w6 ⟨rfl, hw6⟩
      have QQ := hide (Q1.out _ _ q3)
      rw [← hw6] at QQ
      clear hw5 hw6 q1 q2 q3 q4 hbu
      go_wp2
      go_end0
      exact ⟨rfl, QQ.out⟩
end Go.Proofs.Ybulkanja.Chan
