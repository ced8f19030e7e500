/-
  THE WALK of (*zzs1950btr).Deliver (29).
-/
import Derived.Test.YbulkanjaFmtBase
namespace Go.Proofs.YbulkanjaFmt.Tot
open Go.RowKit Go.Maps Go.Proofs.YbulkanjaFmt.MapsF

theorem news_dl (w : World) (b : Nat) (x y : Value) (h : w.heap[b]? = some (.cells #[x, y] 46)) : ∀ j u, ([x, y] : List Value)[j]? = some u → w.cell? ((⟨b, 0, none⟩ : Addr).add j) = some u :=
  World.news_of_block (cs := #[x, y]) (t := 46) (fr := (0, 0)) h

theorem or_body (b0 b1 : Int) (h00 : 0 ≤ b0) (h01 : b0 ≤ 255) (h10 : 0 ≤ b1) (h11 : b1 ≤ 255) : bits .or .i64 b0 (b1 * 256) = b0 + 256 * b1 := by
  obtain ⟨x, rfl⟩ := Int.eq_ofNat_of_zero_le h00
  obtain ⟨y, rfl⟩ := Int.eq_ofNat_of_zero_le h10
  have e : ((y : Int) * 256) = ((y * 256 : Nat) : Int) := by omega
  have h : (x ||| y * 256 : Nat) = x + 256 * y := by
    have := Nat.shiftLeft_add_eq_or_of_lt (b := x) (i := 8) (by omega) y
    rw [Nat.shiftLeft_eq] at this
    rw [Nat.or_comm]
    show y * 2 ^ 8 ||| x = _
    rw [← this]
    omega
  rw [e]
  have key : (BitVec.ofInt 64 ((x : Nat) : Int) ||| BitVec.ofInt 64 ((y * 256 : Nat) : Int)).toNat = x + 256 * y := by
    rw [BitVec.toNat_or, BitVec.toNat_ofInt, BitVec.toNat_ofInt, ← h]
    congr 1 <;> omega
  have hx : x ≤ 255 := by omega
  have hy : y ≤ 255 := by omega
  show IntKind.i64.wrap (((BitVec.ofInt 64 ((x : Nat) : Int) ||| BitVec.ofInt 64 ((y * 256 : Nat) : Int)).toNat : Nat) : Int) = _
  rw [key]
  simp [IntKind.wrap, IntKind.bits, IntKind.signed]
  omega

/-- 'x.f = append(x.f, ..)', behind the store, from whatever world bears what w bore. -/
theorem append_end1 {w W0 w1 : World} {T base n e size gg cap off m : Nat} {t : TypeId} {cs : Array Value} {ov : Value} {xs ys : List Value} (hT : w.heap[T]? = some (.cells cs t)) (ht : t ≠ e) (hown : w.ownsRow base e size ov n xs) (lT : T < w.heap.size)
    (hK : Keeps (fun _ => False) w W0) (hgrow : W0.grownBy w1 ov.ownBlock) (hat : ov.ownBlock = some gg ∨ w.heap.size ≤ gg) (hown1 : w1.ownsRow base e size (.slice (some ⟨gg, 0, none⟩) m cap) m ys) :
    (w1.setCell ⟨T, off, none⟩ (.slice (some ⟨gg, 0, none⟩) m cap)).heap[T]? = some (.cells (cs.setIfInBounds off (.slice (some ⟨gg, 0, none⟩) m cap)) t) ∧
    (w1.setCell ⟨T, off, none⟩ (.slice (some ⟨gg, 0, none⟩) m cap)).ownsRow base e size (.slice (some ⟨gg, 0, none⟩) m cap) m ys ∧
    Keeps (fun k => k = T ∨ some k = ov.ownBlock) w (w1.setCell ⟨T, off, none⟩ (.slice (some ⟨gg, 0, none⟩) m cap)) ∧ Moved w ov (.slice (some ⟨gg, 0, none⟩) m cap) := by
  have hTo : ov.ownBlock ≠ some T := own_ne hown hT ht
  have hb1 : w1.heap[T]? = w.heap[T]? := by
    rw [hgrow.block T (Nat.lt_of_lt_of_le lT hK.size) (Ne.symm hTo), hK.block T lT (fun h => h)]
  have hgT : gg ≠ T := fun h => own_ne hown1 (hb1.trans hT) ht (by rw [h]; rfl)
  refine ⟨heap_setCell_same w1 T off cs t _ (hb1.trans hT), own_of_block hown1 (fun k hk => Below.heap_setCell _ _ _ _ ?_), ?_, ?_⟩
  · simp [Value.ownBlock] at hk
    exact fun h => hgT (hk.trans h)
  · exact ((hK.mono (fun _ _ h => h.elim)).grown hgrow (fun k hk => .inr hk.symm)).setCell (p := ⟨T, off, none⟩) (.inl rfl) _
  · rcases hat with h | h
    · exact .inl h.symm
    · refine .inr fun k hk => ?_
      simp [Value.ownBlock] at hk
      omega

set_option maxRecDepth 100000 in
set_option maxHeartbeats 3200000 in
theorem deliv_any (T base n bb : Nat) (bv dv : Value) (xs : List Value) (snd b0 b1 : Int) (w : World) (hT : w.heap[T]? = some (.cells #[bv, dv] 28)) (hown : w.ownsRow base 46 2 dv n xs) (hbase : base ≤ w.heap.size) (hn : n ≤ 10000)
    (hB : w.heap[bb]? = some (.cells #[.int .u8 b0, .int .u8 b1] 5)) (h00 : 0 ≤ b0) (h01 : b0 ≤ 255) (h10 : 0 ≤ b1) (h11 : b1 ≤ 255) :
    Calls Ybaf.prog 29 #[.pointer (some ⟨T, 0, none⟩), .int .i64 snd, .slice (some ⟨bb, 0, none⟩) 2 2] w
      fun e w' => e = .returned (.tuple #[]) ∧ ∃ dv', w'.heap[T]? = some (.cells #[bv, dv'] 28) ∧ w'.ownsRow base 46 2 dv' (n + 1) (xs ++ [.int .i64 snd, .int .i64 (b0 + 256 * b1)]) ∧ Keeps (fun k => k = T ∨ some k = dv.ownBlock) w w' ∧ Moved w dv dv' := by
  obtain ⟨i0, hi0, hz0, hz1, hz2⟩ := info_parts Ybaf.info46
  have hc : w.cell? ⟨T, 1, none⟩ = some dv := cell_of_row w T 1 _ _ _ hT
  have hf : w.frozen? ⟨T, 1, none⟩ = false := by simp [World.frozen?, hT]
  have c0 : w.cell? ⟨bb, 0, none⟩ = some (.int .u8 b0) := cell_of_row w bb 0 _ _ _ hB
  have c1 : w.cell? ⟨bb, 1, none⟩ = some (.int .u8 b1) := cell_of_row w bb 1 _ _ _ hB
  have lT : T < w.heap.size := World.block_lt_of_cell? w _ hc
  have lB : bb < w.heap.size := World.block_lt_of_cell? w _ c0
  have hTo : dv.ownBlock ≠ some T := own_ne hown hT (by decide)
  have hWo : some w.heap.size ≠ dv.ownBlock := own_new hown
  have HT := hide hT
  have HO := hide hown
  clear hT hown hB
  go_enter Ybaf.func29, Ybaf.ntmps29
  go_wp2_with fail
  have hor := or_body b0 b1 h00 h01 h10 h11
  go_quiet (fail)
  have HPK := hide (news_dl ((w.drewN nq).alloc (.cells #[.int .i64 snd, .int .i64 (b0 + 256 * b1)] 46)) w.heap.size (.int .i64 snd) (.int .i64 (b0 + 256 * b1)) (heap_alloc_new (w.drewN nq) _))
  go_wp2_with (refine wpList_append_lies _ (by rfl) _ _ _ (by rfl) base 46 i0 _ 2 16 Ybaf.underlying26 hi0 hz0 hz1 hz2 rfl (by omega) dv n xs (by rfl) (World.ownsRow.alloc (w := w.drewN nq) HO.out _) ⟨w.heap.size, 0, none⟩ 1 1 [.int .i64 snd, .int .i64 (b0 + 256 * b1)] (by rfl) (by rfl) HPK.out (by simp [Value.oneCell']) (by omega) (by unfold maxLen; omega) (by omega) (by simp; omega) (w.heap.size + 1) (by simp) ?_; intro gg cap w1 hown1 hgrow hat hlt; have hcT : w1.cell? ⟨T, 1, none⟩ = some dv := (hgrow.cell_far ⟨T, 1, none⟩ (by simp; omega) (Ne.symm hTo)).trans ((World.cell?_alloc_past (w := w.drewN nq) _ _ _ lT).trans hc); have hfT : w1.frozen? ⟨T, 1, none⟩ = false := (hgrow.frozen_far ⟨T, 1, none⟩ (by simp; omega) (Ne.symm hTo)).trans ((World.frozen?_alloc_past (w := w.drewN nq) _ _ _ lT).trans hf))
  have HG := hide hgrow
  have HAT := hide hat
  have HOW := hide hown1
  clear hgrow hat hown1
  go_wp2
  obtain ⟨e1, e2, e3, e4⟩ := append_end1 (off := 1) HT.out (by decide) HO.out lT (((Keeps.refl _ w).drewN nq).alloc _) HG.out (HAT.out.imp id (fun h => by omega)) HOW.out
  go_end0
  exact ⟨rfl, _, e1, e2, e3, e4⟩
end Go.Proofs.YbulkanjaFmt.Tot
