/-
  THE WALK of syncbb.LawS1952CLastWins (8), at slices of at most 1024 elements.
-/
import Derived.Test.YbulkankcBbWalks
namespace Go.Proofs.Ybulkankc.Bb
open Go.RowKit Go.Proofs.Ybulkankc.Cmp

theorem Seen.out {w : World} {a : Option Addr} {len cap : Nat} {x : Nat → Int} (h : Seen w a len cap x) : len = 0 ∨ ∀ ad, a = some ad → ad.block < w.heap.size := by
  rcases h with ⟨_, h, _⟩ | ⟨_, _, h⟩ | ⟨b, o, rfl, h⟩
  · exact .inl h
  · exact .inl h
  · by_cases h0 : len = 0
    · exact .inl h0
    · exact .inr fun ad e => by cases e; exact Row.block h (by omega)

/-- A row that lay below block B stays as it is where nothing below B turns. -/
theorem Row.low {w w' : World} {B : Nat} {a : Option Addr} {len : Nat} {x : Nat → Int} (h : Row w a len x) (ho : len = 0 ∨ ∀ ad, a = some ad → ad.block < B) (hb : Below B w w') : Row w' a len x := by
  rcases ho with h0 | ho
  · exact .inl h0
  · rcases h with h | ⟨b, o, rfl, h⟩
    · exact .inl h
    · exact .inr ⟨b, o, rfl, fun i hi => (hb.cell (p := ⟨b, o + i, none⟩) (show b < B from ho _ rfl)).trans (h i hi)⟩

set_option maxRecDepth 100000 in
set_option maxHeartbeats 2000000 in
theorem last_walk (a0 : Int) (a1 : Option Addr) (len1 cap1 : Nat) (x : Nat → Int) (a2 : Int) (a3 : Option Addr) (len3 cap3 : Nat) (y : Nat → Int) (w : World) (hl1 : len1 ≤ 1024) (hl3 : len3 ≤ 1024) (s1 : Seen w a1 len1 cap1 x) (s3 : Seen w a3 len3 cap3 y) :
    Calls Yba.prog 8 #[.int .i64 a0, .slice a1 len1 cap1, .int .i64 a2, .slice a3 len3 cap3] w fun e w' => e = .returned (.bool true) ∧ Below w.heap.size w w' := by
  have i1 : (len1 : Int) ≤ 1024 := by omega
  have i3 : (len3 : Int) ≤ 1024 := by omega
  have e0 : (a0 != a0) = false := by simp
  have e2 : (a2 == a2) = true := by simp
  go_enter Yba.func8, Yba.ntmps8
  go_wp2_with fail
  refine (clone_any a1 len1 cap1 x _ hl1 (s1.below ((((Below.refl _ _).alloc (Nat.le_refl _) _).alloc (by simp) _).alloc (by simp; omega) _))).mono ?_
  rintro e W1 ⟨b1, c1, rfl, C1⟩
  have hb1 : Below w.heap.size w W1 := ((((Below.refl _ _).alloc (Nat.le_refl _) _).alloc (by simp) _).alloc (by simp; omega) _).trans (C1.below.mono (by simp; omega))
  have z1 : w.heap.size + 1 + 1 < W1.heap.size := by have := C1.below.size; simp at this; omega
  have h12 : W1.cell? ⟨w.heap.size + 1 + 1, 12, none⟩ = some (.int .i64 0) := (C1.below.cell (p := ⟨w.heap.size + 1 + 1, 12, none⟩) (by simp)).trans (World.cell?_alloc_at _ _ _ _ (by simp))
  have h13 : W1.cell? ⟨w.heap.size + 1 + 1, 13, none⟩ = some (.slice none 0 0) := (C1.below.cell (p := ⟨w.heap.size + 1 + 1, 13, none⟩) (by simp)).trans (World.cell?_alloc_at _ _ _ _ (by simp))
  have f12 : W1.frozen? ⟨w.heap.size + 1 + 1, 12, none⟩ = false := (C1.below.frozen (p := ⟨w.heap.size + 1 + 1, 12, none⟩) (by simp)).trans (World.frozen?_alloc_at _ _ _ _ (by simp))
  have f13 : W1.frozen? ⟨w.heap.size + 1 + 1, 13, none⟩ = false := (C1.below.frozen (p := ⟨w.heap.size + 1 + 1, 13, none⟩) (by simp)).trans (World.frozen?_alloc_at _ _ _ _ (by simp))
  have n1 := hide C1.nilness
  have r1 := C1.row
  have v1 : Hid (∀ ad, b1 = some ad → ad.block ≠ w.heap.size + 1 + 1) := fun ad h => by have := C1.own ad h; simp at this; omega
  have q1 : Row W1 a1 len1 x := Row.below s1.row hb1
  have q3 : Seen W1 a3 len3 cap3 y := s3.below hb1
  have o1 := hide s1.out
  have o3 := hide s3.out
  clear C1 s1 s3
  -- the first termination
  go_wp2_with fail
  refine (handle_any (w.heap.size + 1 + 1) 0 a0 b1 len1 c1 W1 _ _ h12 h13 f12 f13).mono ?_
  rintro e W2 ⟨rfl, hW2⟩
  have hb2 : Below w.heap.size w W2 := by rw [hW2]; exact hb1.trans (handled_below W1 _ _ 0 a0 _ (by omega) (by omega))
  have z2 : w.heap.size + 1 + 1 < W2.heap.size := by rw [hW2, handled_size]; omega
  have g12 : W2.cell? ⟨w.heap.size + 1 + 1, 12, none⟩ = some (.int .i64 a0) := by rw [hW2]; exact handled_12 _ _ _ _ _ _ h12
  have g13 : W2.cell? ⟨w.heap.size + 1 + 1, 13, none⟩ = some (.slice b1 len1 c1) := by rw [hW2]; exact handled_13 _ _ _ _ _ _ h13
  have k12 : W2.frozen? ⟨w.heap.size + 1 + 1, 12, none⟩ = false := by rw [hW2, handled_frozen _ _ _ _ _ _ _ z1]; exact f12
  have k13 : W2.frozen? ⟨w.heap.size + 1 + 1, 13, none⟩ = false := by rw [hW2, handled_frozen _ _ _ _ _ _ _ z1]; exact f13
  have p1 : Row W2 b1 len1 x := by rw [hW2]; exact handled_row _ _ _ r1 v1.out
  have p2 : Row W2 a1 len1 x := by rw [hW2]; exact Row.low q1 o1.out (handled_below W1 _ _ 0 a0 _ (by omega) (by omega))
  have q5 : Hid (Seen W2 a3 len3 cap3 y) := hide (by
    rcases q3 with h | h | ⟨b, o, rfl, h⟩
    · exact .inl h
    · exact .inr (.inl h)
    · rcases o3.out with h0 | h0
      · exact .inr (.inl ⟨_, rfl, h0⟩)
      · refine .inr (.inr ⟨b, o, rfl, fun i hi => ?_⟩)
        have hlt : b < w.heap.size := h0 _ rfl
        rw [hW2, handled_other _ _ _ _ _ _ _ (by omega) (.inl (by omega))]
        exact h i hi)
  clear hW2 h12 h13 f12 f13 r1 q1 hb1 z1 q3 o1 v1
  go_wp2_with fail
  refine (eq_any b1 a1 len1 c1 cap1 x W2 hl1 n1.out p1 p2).mono ?_
  rintro e W3 ⟨rfl, m3, rfl⟩
  clear p1 p2 n1
  have HB2 := hide hb2
  clear hb2
  -- the second
  go_wp2_with fail
  have q5d : Seen (W2.drewN m3) a3 len3 cap3 y := q5.out
  refine (clone_any a3 len3 cap3 y (W2.drewN m3) hl3 q5d).mono ?_
  rintro e W4 ⟨b3, c3, rfl, C3⟩
  have hb4 : Below w.heap.size w W4 := (below_drewN HB2.out m3).trans (C3.below.mono (by simp; omega))
  have z4 : w.heap.size + 1 + 1 < W4.heap.size := by have := C3.below.size; simp at this; omega
  have h12 : W4.cell? ⟨w.heap.size + 1 + 1, 12, none⟩ = some (.int .i64 a0) := (C3.below.cell (p := ⟨w.heap.size + 1 + 1, 12, none⟩) (by simpa using z2)).trans g12
  have h13 : W4.cell? ⟨w.heap.size + 1 + 1, 13, none⟩ = some (.slice b1 len1 c1) := (C3.below.cell (p := ⟨w.heap.size + 1 + 1, 13, none⟩) (by simpa using z2)).trans g13
  have f12 : W4.frozen? ⟨w.heap.size + 1 + 1, 12, none⟩ = false := (C3.below.frozen (p := ⟨w.heap.size + 1 + 1, 12, none⟩) (by simpa using z2)).trans k12
  have f13 : W4.frozen? ⟨w.heap.size + 1 + 1, 13, none⟩ = false := (C3.below.frozen (p := ⟨w.heap.size + 1 + 1, 13, none⟩) (by simpa using z2)).trans k13
  have n3 := hide C3.nilness
  have r3 := C3.row
  have v3 : Hid (∀ ad, b3 = some ad → ad.block ≠ w.heap.size + 1 + 1) := fun ad h => by have := C3.own ad h; simp at this; omega
  have q3 : Row W4 a3 len3 y := Row.below q5d.row C3.below
  clear C3 q5 q5d g12 g13 k12 k13 z2
  go_wp2_with fail
  refine (handle_any (w.heap.size + 1 + 1) 0 a2 b3 len3 c3 W4 _ _ h12 h13 f12 f13).mono ?_
  rintro e W5 ⟨rfl, hW5⟩
  have hb5 : Below w.heap.size w W5 := by rw [hW5]; exact hb4.trans (handled_below W4 _ _ 0 a2 _ (by omega) (by omega))
  have z5 : w.heap.size + 1 + 1 < W5.heap.size := by rw [hW5, handled_size]; omega
  have g12 : W5.cell? ⟨w.heap.size + 1 + 1, 12, none⟩ = some (.int .i64 a2) := by rw [hW5]; exact handled_12 _ _ _ _ _ _ h12
  have g13 : W5.cell? ⟨w.heap.size + 1 + 1, 13, none⟩ = some (.slice b3 len3 c3) := by rw [hW5]; exact handled_13 _ _ _ _ _ _ h13
  have p1 : Row W5 b3 len3 y := by rw [hW5]; exact handled_row _ _ _ r3 v3.out
  have p2 : Row W5 a3 len3 y := by rw [hW5]; exact Row.low q3 o3.out (handled_below W4 _ _ 0 a2 _ (by omega) (by omega))
  clear hW5 h12 h13 f12 f13 r3 q3 hb4 z4 v3 o3
  go_wp2_with fail
  refine (eq_any b3 a3 len3 c3 cap3 y W5 hl3 n3.out p1 p2).mono ?_
  rintro e W6 ⟨rfl, m6, rfl⟩
  go_wp2
  go_ret
  exact ⟨rfl, below_drewN hb5 m6⟩

end Go.Proofs.Ybulkankc.Bb
