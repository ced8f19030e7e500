/-
  THE WALK of syncbb.LawS1952CTermination (7), at slices of at most 1024 elements. Region 3 (the making of the agent) draws its order over three calls and a 'make': by the law of YbulkankcOrders.
-/
import Derived.Test.YbulkankcBbWalks
import Derived.Test.YbulkankcOrders
namespace Go.Proofs.Ybulkankc.Bb
open Go.RowKit Go.Proofs.Ybulkankc.Cmp Go.Proofs.Ybulkankc.Orders

/-- A slot holds a clone. -/
def Cl (a : Option Addr) (len : Nat) (x : Nat → Int) (v : Value) (w : World) : Prop := ∃ b c, v = .slice b len c ∧ b.isNone = a.isNone ∧ Row w b len x

theorem Cl.mono {a : Option Addr} {len : Nat} {x : Nat → Int} {v : Value} {w w' : World} (h : Cl a len x v w) (hb : Below w.heap.size w w') : Cl a len x v w' := by
  obtain ⟨b, c, h1, h2, h3⟩ := h
  exact ⟨b, c, h1, h2, Row.below h3 hb⟩

/-- A row that does not lie in block A, or is empty. -/
def Off (A : Nat) (b : Option Addr) (len : Nat) : Prop := len = 0 ∨ ∀ ad, b = some ad → ad.block ≠ A

/-- The agent, whole, in block A. -/
structure Agent (w : World) (A : Nat) (a1 a6 a8 a9 : Int) (a5 a7 : Option Addr) (len5 len7 len2 : Nat) (xp xa : Nat → Int) (bp ba bo bv : Option Addr) (cp ca co cv : Nat) : Prop where
  c1 : w.cell? ⟨A, 1, none⟩ = some (.int .i64 len7)
  c2 : w.cell? ⟨A, 2, none⟩ = some (.int .i64 a9)
  c5 : w.cell? ⟨A, 5, none⟩ = some (.slice none 0 0)
  c6 : w.cell? ⟨A, 6, none⟩ = some (.int .i64 0)
  c7 : w.cell? ⟨A, 7, none⟩ = some (.slice bp len5 cp)
  c8 : w.cell? ⟨A, 8, none⟩ = some (.int .i64 a6)
  c9 : w.cell? ⟨A, 9, none⟩ = some (.slice ba len7 ca)
  c10 : w.cell? ⟨A, 10, none⟩ = some (.slice bo len7 co)
  c11 : w.cell? ⟨A, 11, none⟩ = some (.int .i64 a8)
  c12 : w.cell? ⟨A, 12, none⟩ = some (.int .i64 a1)
  c13 : w.cell? ⟨A, 13, none⟩ = some (.slice bv len2 cv)
  f12 : w.frozen? ⟨A, 12, none⟩ = false
  f13 : w.frozen? ⟨A, 13, none⟩ = false
  np : bp.isNone = a5.isNone
  na : ba.isNone = a7.isNone
  rp : Row w bp len5 xp
  ra : Row w ba len7 xa
  ro : Row w bo len7 (fun _ => 0)
  op : Off A bp len5
  oa : Off A ba len7
  oo : Off A bo len7

theorem Agent.lt {w : World} {A : Nat} {a1 a6 a8 a9 : Int} {a5 a7 : Option Addr} {len5 len7 len2 : Nat} {xp xa : Nat → Int} {bp ba bo bv : Option Addr} {cp ca co cv : Nat}
    (h : Agent w A a1 a6 a8 a9 a5 a7 len5 len7 len2 xp xa bp ba bo bv cp ca co cv) : A < w.heap.size := lt_of_cell h.c1

theorem Agent.mono {w w' : World} {A : Nat} {a1 a6 a8 a9 : Int} {a5 a7 : Option Addr} {len5 len7 len2 : Nat} {xp xa : Nat → Int} {bp ba bo bv : Option Addr} {cp ca co cv : Nat}
    (h : Agent w A a1 a6 a8 a9 a5 a7 len5 len7 len2 xp xa bp ba bo bv cp ca co cv) (hb : Below w.heap.size w w') : Agent w' A a1 a6 a8 a9 a5 a7 len5 len7 len2 xp xa bp ba bo bv cp ca co cv := by
  have hA := h.lt
  have c : ∀ o, w'.cell? ⟨A, o, none⟩ = w.cell? ⟨A, o, none⟩ := fun o => hb.cell (p := ⟨A, o, none⟩) hA
  have f : ∀ o, w'.frozen? ⟨A, o, none⟩ = w.frozen? ⟨A, o, none⟩ := fun o => hb.frozen (p := ⟨A, o, none⟩) hA
  exact ⟨(c _).trans h.c1, (c _).trans h.c2, (c _).trans h.c5, (c _).trans h.c6, (c _).trans h.c7, (c _).trans h.c8, (c _).trans h.c9, (c _).trans h.c10, (c _).trans h.c11, (c _).trans h.c12, (c _).trans h.c13,
    (f _).trans h.f12, (f _).trans h.f13, h.np, h.na, Row.below h.rp hb, Row.below h.ra hb, Row.below h.ro hb, h.op, h.oa, h.oo⟩

/-- The slots that region 3 writes. -/
def tDst (i : Nat) : Tmp := [42, 43, 44, 45, 46, 47, 48, 49, 50, 51, 52, 53, 54, 55, 56, 57, 58, 59, 60, 21].getD i 0

/-- What each operation of region 3 leaves. -/
def tPost (a1 : Int) (a2 : Option Addr) (len2 cap2 : Nat) (xo : Nat → Int) (a5 : Option Addr) (len5 cap5 : Nat) (xp : Nat → Int) (a6 : Int) (a7 : Option Addr) (len7 cap7 : Nat) (xa : Nat → Int) (a8 a9 : Int) (B : Nat) (i : Nat) (v : Value) (w : World) : Prop :=
  match i with
  | 0 => v = .slice a7 len7 cap7
  | 1 => v = .int .i64 len7
  | 2 => v = .int .i64 a9
  | 3 => v = .agg #[.int .i64 1, .int .i64 len7, .int .i64 a9, .slice none 0 0, .slice none 0 0]
  | 4 => v = .slice a5 len5 cap5
  | 5 => Cl a5 len5 xp v w
  | 6 => v = .int .i64 a6
  | 7 => v = .slice a7 len7 cap7
  | 8 => Cl a7 len7 xa v w
  | 9 => v = .slice a7 len7 cap7
  | 10 => v = .int .i64 len7
  | 11 => ∃ b c, v = .slice b len7 c ∧ Row w b len7 (fun _ => 0)
  | 12 => v = .int .i64 a8
  | 13 => v = .int .i64 a1
  | 14 => v = .slice a2 len2 cap2
  | 15 => Cl a2 len2 xo v w
  | 16 => ∃ u, v = .agg #[.int .i64 a1, u] ∧ Cl a2 len2 xo u w
  | 17 => ∃ bp cp ba ca bo co bv cv, v = .agg #[.int .i64 1, .int .i64 len7, .int .i64 a9, .slice none 0 0, .slice none 0 0, .slice none 0 0, .int .i64 0, .slice bp len5 cp, .int .i64 a6, .slice ba len7 ca, .slice bo len7 co, .int .i64 a8, .int .i64 a1, .slice bv len2 cv] ∧
      bp.isNone = a5.isNone ∧ ba.isNone = a7.isNone ∧ Row w bp len5 xp ∧ Row w ba len7 xa ∧ Row w bo len7 (fun _ => 0)
  | _ => ∃ A bp cp ba ca bo co bv cv, v = .pointer (some ⟨A, 0, none⟩) ∧ B ≤ A ∧ Agent w A a1 a6 a8 a9 a5 a7 len5 len7 len2 xp xa bp ba bo bv cp ca co cv

theorem tPost_mono (a1 : Int) (a2 : Option Addr) (len2 cap2 : Nat) (xo : Nat → Int) (a5 : Option Addr) (len5 cap5 : Nat) (xp : Nat → Int) (a6 : Int) (a7 : Option Addr) (len7 cap7 : Nat) (xa : Nat → Int) (a8 a9 : Int) (B : Nat) :
    ∀ i v w w', tPost a1 a2 len2 cap2 xo a5 len5 cap5 xp a6 a7 len7 cap7 xa a8 a9 B i v w → Below w.heap.size w w' → tPost a1 a2 len2 cap2 xo a5 len5 cap5 xp a6 a7 len7 cap7 xa a8 a9 B i v w' := by
  intro i v w w' h hb
  unfold tPost at h ⊢
  split at h
  all_goals first
    | exact h
    | exact Cl.mono h hb
    | (obtain ⟨b, c, h1, h2⟩ := h; exact ⟨b, c, h1, Row.below h2 hb⟩)
    | (obtain ⟨u, h1, h2⟩ := h; exact ⟨u, h1, Cl.mono h2 hb⟩)
    | (obtain ⟨bp, cp, ba, ca, bo, co, bv, cv, h1, h2, h3, h4, h5, h6⟩ := h; exact ⟨bp, cp, ba, ca, bo, co, bv, cv, h1, h2, h3, Row.below h4 hb, Row.below h5 hb, Row.below h6 hb⟩)
    | (obtain ⟨A, bp, cp, ba, ca, bo, co, bv, cv, h1, h0, h2⟩ := h; exact ⟨A, bp, cp, ba, ca, bo, co, bv, cv, h1, h0, h2.mono hb⟩)

/-- A row lies off the next new block. -/
theorem off_new {w : World} {b : Option Addr} {len : Nat} {x : Nat → Int} (h : Row w b len x) : Off w.heap.size b len := by
  rcases h with h | ⟨b, o, rfl, h⟩
  · exact .inl h
  · by_cases h0 : len = 0
    · exact .inl h0
    · exact .inr fun ad e => by cases e; exact Nat.ne_of_lt (Row.block h (by omega))

theorem handled_off {w : World} {A : Nat} (frm c : Int) (v : Value) {a : Option Addr} {len : Nat} {x : Nat → Int} (h : Row w a len x) (ho : Off A a len) : Row (handled w A frm c v) a len x := by
  rcases ho with h0 | h0
  · exact .inl h0
  · exact handled_row frm c v h h0

theorem make_zero (t e : TypeId) (n : Nat) (w : World) (hn : n ≤ 1024) (ht : Yba.prog.underlying t = some (.slice e)) (hi : (Yba.prog.info? e).map (fun i => (i.zero, i.size, i.bytes)) = some (some (.int .i64 0), 1, 8)) :
    (Instr.makeSlice t (.int .i64 n) (.int .i64 n)).run Yba.prog w = .ok (.slice (some ⟨w.heap.size, 0, none⟩) n n) (w.alloc (.cells (madeCells #[.int .i64 0] n) e)) := by
  obtain ⟨i0, hi, hz0, hz1, hz2⟩ := info_parts hi
  have hmk := run_make (P := Yba.prog) w t e i0 (.int .i64 0) ht hi hz0 .i64 .i64 n n (by omega) (by omega) (by rw [hz2]; omega) (by omega)
  simpa only [Value.cells, hz1, Nat.mul_one, Int.toNat_natCast] using hmk

theorem zero_row (w : World) (e : TypeId) (n : Nat) : Row (w.alloc (.cells (madeCells #[.int .i64 0] n) e)) (some ⟨w.heap.size, 0, none⟩) n (fun _ => 0) :=
  .inr ⟨w.heap.size, 0, rfl, fun i hi => by rw [World.cell?_alloc_at _ _ _ _ rfl, Nat.zero_add, madeCells_get n i hi]⟩

set_option maxRecDepth 100000 in
set_option maxHeartbeats 2000000 in
theorem term_walk (a0 a1 : Int) (a2 : Option Addr) (len2 cap2 : Nat) (xo : Nat → Int) (a3 : Int) (a4 : Option Addr) (len4 cap4 : Nat) (xn : Nat → Int) (a5 : Option Addr) (len5 cap5 : Nat) (xp : Nat → Int) (a6 : Int)
    (a7 : Option Addr) (len7 cap7 : Nat) (xa : Nat → Int) (a8 a9 : Int) (w : World) (l2 : len2 ≤ 1024) (l4 : len4 ≤ 1024) (l5 : len5 ≤ 1024) (l7 : len7 ≤ 1024)
    (s2 : Seen w a2 len2 cap2 xo) (s4 : Seen w a4 len4 cap4 xn) (s5 : Seen w a5 len5 cap5 xp) (s7 : Seen w a7 len7 cap7 xa) :
    Calls Yba.prog 7 #[.int .i64 a0, .int .i64 a1, .slice a2 len2 cap2, .int .i64 a3, .slice a4 len4 cap4, .slice a5 len5 cap5, .int .i64 a6, .slice a7 len7 cap7, .int .i64 a8, .int .i64 a9] w
      fun e w' => e = .returned (.bool true) ∧ Below w.heap.size w w' := by
  have i2 : (len2 : Int) ≤ 1024 := by omega
  have i4 : (len4 : Int) ≤ 1024 := by omega
  have i5 : (len5 : Int) ≤ 1024 := by omega
  have i7 : (len7 : Int) ≤ 1024 := by omega
  go_enter Yba.func7, Yba.ntmps7
  go_wp2
  refine wp_region_order (by kernel_rfl) tDst (fun _ => false) (tPost a1 a2 len2 cap2 xo a5 len5 cap5 xp a6 a7 len7 cap7 xa a8 a9 w.heap.size) 179 rfl (by kernel_rfl) (by decide) (tPost_mono a1 a2 len2 cap2 xo a5 len5 cap5 xp a6 a7 len7 cap7 xa a8 a9 w.heap.size) ?_ ?_
  · refine ⟨?_, ?_, ?_, ?_, ?_, ?_, ?_, ?_, ?_, ?_, ?_, ?_, ?_, ?_, ?_, ?_, ?_, ?_, ?_, ?_, trivial⟩
    · intro a wx v hb hout hdep
      have e7 : a.tmps[7]?.getD undef = .slice a7 len7 cap7 := hout 7 (by decide)
      exact .inl ⟨_, wx, by go_simp, Below.refl _ _, rfl, fun h => by cases h⟩
    · intro a wx v hb hout hdep
      obtain ⟨p0, q0⟩ : a.tmps[42]?.getD undef = v 0 ∧ v 0 = .slice a7 len7 cap7 := hdep ⟨0, .data⟩ (by simp) rfl
      rw [q0] at p0
      exact .inl ⟨_, wx, by go_simp, Below.refl _ _, rfl, fun h => by cases h⟩
    · intro a wx v hb hout hdep
      have e9 : a.tmps[9]?.getD undef = .int .i64 a9 := hout 9 (by decide)
      exact .inl ⟨_, wx, by go_simp, Below.refl _ _, rfl, fun h => by cases h⟩
    · intro a wx v hb hout hdep
      obtain ⟨p1, q1⟩ : a.tmps[43]?.getD undef = v 1 ∧ v 1 = .int .i64 len7 := hdep ⟨1, .data⟩ (by simp) rfl
      obtain ⟨p2, q2⟩ : a.tmps[44]?.getD undef = v 2 ∧ v 2 = .int .i64 a9 := hdep ⟨2, .data⟩ (by simp) rfl
      rw [q1] at p1
      rw [q2] at p2
      exact .inl ⟨_, wx, by go_simp, Below.refl _ _, rfl, fun h => by cases h⟩
    · intro a wx v hb hout hdep
      have e5 : a.tmps[5]?.getD undef = .slice a5 len5 cap5 := hout 5 (by decide)
      exact .inl ⟨_, wx, by go_simp, Below.refl _ _, rfl, fun h => by cases h⟩
    · intro a wx v hb hout hdep
      obtain ⟨p4, q4⟩ : a.tmps[46]?.getD undef = v 4 ∧ v 4 = .slice a5 len5 cap5 := hdep ⟨4, .data⟩ (by simp) rfl
      rw [q4] at p4
      refine .inr ⟨14, #[.slice a5 len5 cap5], by go_simp, ?_⟩
      refine (clone_any a5 len5 cap5 xp wx (by omega) (s5.below hb)).mono ?_
      rintro e w1 ⟨b, c, rfl, C⟩
      exact ⟨_, rfl, C.below, ⟨b, c, rfl, C.nilness, C.row⟩, fun h => by cases h⟩
    · intro a wx v hb hout hdep
      have e6 : a.tmps[6]?.getD undef = .int .i64 a6 := hout 6 (by decide)
      exact .inl ⟨_, wx, by go_simp, Below.refl _ _, rfl, fun h => by cases h⟩
    · intro a wx v hb hout hdep
      have e7 : a.tmps[7]?.getD undef = .slice a7 len7 cap7 := hout 7 (by decide)
      exact .inl ⟨_, wx, by go_simp, Below.refl _ _, rfl, fun h => by cases h⟩
    · intro a wx v hb hout hdep
      obtain ⟨p7, q7⟩ : a.tmps[49]?.getD undef = v 7 ∧ v 7 = .slice a7 len7 cap7 := hdep ⟨7, .data⟩ (by simp) rfl
      rw [q7] at p7
      refine .inr ⟨15, #[.slice a7 len7 cap7], by go_simp, ?_⟩
      refine (clone64_any a7 len7 cap7 xa wx (by omega) (s7.below hb)).mono ?_
      rintro e w1 ⟨b, c, rfl, C⟩
      exact ⟨_, rfl, C.below, ⟨b, c, rfl, C.nilness, C.row⟩, fun h => by cases h⟩
    · intro a wx v hb hout hdep
      have e7 : a.tmps[7]?.getD undef = .slice a7 len7 cap7 := hout 7 (by decide)
      exact .inl ⟨_, wx, by go_simp, Below.refl _ _, rfl, fun h => by cases h⟩
    · intro a wx v hb hout hdep
      obtain ⟨p9, q9⟩ : a.tmps[51]?.getD undef = v 9 ∧ v 9 = .slice a7 len7 cap7 := hdep ⟨9, .data⟩ (by simp) rfl
      rw [q9] at p9
      exact .inl ⟨_, wx, by go_simp, Below.refl _ _, rfl, fun h => by cases h⟩
    · intro a wx v hb hout hdep
      obtain ⟨p10, q10⟩ : a.tmps[52]?.getD undef = v 10 ∧ v 10 = .int .i64 len7 := hdep ⟨10, .data⟩ (by simp) rfl
      rw [q10] at p10
      have hmk := make_zero 22 3 len7 wx l7 Yba.underlying22 Yba.info3
      refine .inl ⟨_, _, by go_simp, (Below.refl _ _).alloc (Nat.le_refl _) _, ⟨some ⟨wx.heap.size, 0, none⟩, len7, rfl, zero_row wx 3 len7⟩, fun h => by cases h⟩
    · intro a wx v hb hout hdep
      have e8 : a.tmps[8]?.getD undef = .int .i64 a8 := hout 8 (by decide)
      exact .inl ⟨_, wx, by go_simp, Below.refl _ _, rfl, fun h => by cases h⟩
    · intro a wx v hb hout hdep
      have e1 : a.tmps[1]?.getD undef = .int .i64 a1 := hout 1 (by decide)
      exact .inl ⟨_, wx, by go_simp, Below.refl _ _, rfl, fun h => by cases h⟩
    · intro a wx v hb hout hdep
      have e2 : a.tmps[2]?.getD undef = .slice a2 len2 cap2 := hout 2 (by decide)
      exact .inl ⟨_, wx, by go_simp, Below.refl _ _, rfl, fun h => by cases h⟩
    · intro a wx v hb hout hdep
      obtain ⟨p14, q14⟩ : a.tmps[56]?.getD undef = v 14 ∧ v 14 = .slice a2 len2 cap2 := hdep ⟨14, .data⟩ (by simp) rfl
      rw [q14] at p14
      refine .inr ⟨14, #[.slice a2 len2 cap2], by go_simp, ?_⟩
      refine (clone_any a2 len2 cap2 xo wx (by omega) (s2.below hb)).mono ?_
      rintro e w1 ⟨b, c, rfl, C⟩
      exact ⟨_, rfl, C.below, ⟨b, c, rfl, C.nilness, C.row⟩, fun h => by cases h⟩
    · intro a wx v hb hout hdep
      obtain ⟨p13, q13⟩ : a.tmps[55]?.getD undef = v 13 ∧ v 13 = .int .i64 a1 := hdep ⟨13, .data⟩ (by simp) rfl
      obtain ⟨p15, q15⟩ : a.tmps[57]?.getD undef = v 15 ∧ Cl a2 len2 xo (v 15) wx := hdep ⟨15, .data⟩ (by simp) rfl
      rw [q13] at p13
      obtain ⟨bv, cv, h1, h2, h3⟩ := q15
      rw [h1] at p15
      exact .inl ⟨_, wx, by go_simp, Below.refl _ _, ⟨.slice bv len2 cv, rfl, ⟨bv, cv, rfl, h2, h3⟩⟩, fun h => by cases h⟩
    · intro a wx v hb hout hdep
      obtain ⟨p3, q3⟩ : a.tmps[45]?.getD undef = v 3 ∧ v 3 = .agg #[.int .i64 1, .int .i64 len7, .int .i64 a9, .slice none 0 0, .slice none 0 0] := hdep ⟨3, .data⟩ (by simp) rfl
      obtain ⟨p5, q5⟩ : a.tmps[47]?.getD undef = v 5 ∧ Cl a5 len5 xp (v 5) wx := hdep ⟨5, .data⟩ (by simp) rfl
      obtain ⟨p6, q6⟩ : a.tmps[48]?.getD undef = v 6 ∧ v 6 = .int .i64 a6 := hdep ⟨6, .data⟩ (by simp) rfl
      obtain ⟨p8, q8⟩ : a.tmps[50]?.getD undef = v 8 ∧ Cl a7 len7 xa (v 8) wx := hdep ⟨8, .data⟩ (by simp) rfl
      obtain ⟨p11, q11⟩ : a.tmps[53]?.getD undef = v 11 ∧ ∃ b c, v 11 = .slice b len7 c ∧ Row wx b len7 (fun _ => 0) := hdep ⟨11, .data⟩ (by simp) rfl
      obtain ⟨p12, q12⟩ : a.tmps[54]?.getD undef = v 12 ∧ v 12 = .int .i64 a8 := hdep ⟨12, .data⟩ (by simp) rfl
      obtain ⟨p16, q16⟩ : a.tmps[58]?.getD undef = v 16 ∧ ∃ u, v 16 = .agg #[.int .i64 a1, u] ∧ Cl a2 len2 xo u wx := hdep ⟨16, .data⟩ (by simp) rfl
      obtain ⟨bp, cp, g1, g2, g3⟩ := q5
      obtain ⟨ba, ca, g4, g5, g6⟩ := q8
      obtain ⟨bo, co, g7, g8⟩ := q11
      obtain ⟨u, g9, bv, cv, g10, g11, g12⟩ := q16
      rw [q3] at p3
      rw [g1] at p5
      rw [q6] at p6
      rw [g4] at p8
      rw [g7] at p11
      rw [q12] at p12
      rw [g9, g10] at p16
      clear hdep hout hb
      exact .inl ⟨_, wx, by go_simp, Below.refl _ _, ⟨bp, cp, ba, ca, bo, co, bv, cv, rfl, g2, g5, g3, g6, g8⟩, fun h => by cases h⟩
    · intro a wx v hb hout hdep
      obtain ⟨p17, bp, cp, ba, ca, bo, co, bv, cv, g1, g2, g3, g4, g5, g6⟩ : a.tmps[59]?.getD undef = v 17 ∧ tPost a1 a2 len2 cap2 xo a5 len5 cap5 xp a6 a7 len7 cap7 xa a8 a9 w.heap.size 17 (v 17) wx := hdep ⟨17, .data⟩ (by simp) rfl
      rw [g1] at p17
      have hlo := hb.size
      clear hdep hout hb
      refine .inl ⟨_, wx.alloc (.cells #[.int .i64 1, .int .i64 len7, .int .i64 a9, .slice none 0 0, .slice none 0 0, .slice none 0 0, .int .i64 0, .slice bp len5 cp, .int .i64 a6, .slice ba len7 ca, .slice bo len7 co, .int .i64 a8, .int .i64 a1, .slice bv len2 cv] 39), by go_simp, (Below.refl _ _).alloc (Nat.le_refl _) _, ⟨wx.heap.size, bp, cp, ba, ca, bo, co, bv, cv, rfl, hlo, ?_⟩, fun h => by cases h⟩
      have hbl := (Below.refl wx.heap.size wx).alloc (Nat.le_refl _) (.cells #[.int .i64 1, .int .i64 len7, .int .i64 a9, .slice none 0 0, .slice none 0 0, .slice none 0 0, .int .i64 0, .slice bp len5 cp, .int .i64 a6, .slice ba len7 ca, .slice bo len7 co, .int .i64 a8, .int .i64 a1, .slice bv len2 cv] 39)
      exact ⟨by simp, by simp, by simp, by simp, by simp, by simp, by simp, by simp, by simp, by simp, by simp, by simp, by simp, g2, g3, Row.below g4 hbl, Row.below g5 hbl, Row.below g6 hbl, off_new g4, off_new g5, off_new g6⟩
    · intro a wx v hb hout hdep
      obtain ⟨p18, A, bp, cp, ba, ca, bo, co, bv, cv, g1, g0, g2⟩ : a.tmps[60]?.getD undef = v 18 ∧ tPost a1 a2 len2 cap2 xo a5 len5 cap5 xp a6 a7 len7 cap7 xa a8 a9 w.heap.size 18 (v 18) wx := hdep ⟨18, .data⟩ (by simp) rfl
      rw [g1] at p18
      clear hdep hout hb
      exact .inl ⟨_, wx, by go_simp, Below.refl _ _, ⟨A, bp, cp, ba, ca, bo, co, bv, cv, rfl, g0, g2⟩, fun h => by cases h⟩
  · intro v wx hb hpost _
    obtain ⟨A, bp, cp, ba, ca, bo, co, bv, cv, h19, hlo, hag⟩ : tPost a1 a2 len2 cap2 xo a5 len5 cap5 xp a6 a7 len7 cap7 xa a8 a9 w.heap.size 19 (v 19) wx := hpost 19 (by decide)
    clear hpost
    obtain ⟨v0, v1, v2, v3, v4, v5, v6, v7, v8, v9, v10, v11, v12, v13, v14, v15, v16, v17, v18, hv⟩ : ∃ v0 v1 v2 v3 v4 v5 v6 v7 v8 v9 v10 v11 v12 v13 v14 v15 v16 v17 v18, [v 0, v 1, v 2, v 3, v 4, v 5, v 6, v 7, v 8, v 9, v 10, v 11, v 12, v 13, v 14, v 15, v 16, v 17, v 18] = [v0, v1, v2, v3, v4, v5, v6, v7, v8, v9, v10, v11, v12, v13, v14, v15, v16, v17, v18] := ⟨_, _, _, _, _, _, _, _, _, _, _, _, _, _, _, _, _, _, _, rfl⟩
    simp only [List.cons.injEq, and_true] at hv
    obtain ⟨e0, e1, e2, e3, e4, e5, e6, e7, e8, e9, e10, e11, e12, e13, e14, e15, e16, e17, e18⟩ := hv
    simp only [List.size_toArray, List.length_cons, List.length_nil, Nat.reduceAdd, Nat.zero_add, List.range, List.range.loop, List.foldl_cons, List.foldl_nil, tDst, List.getD_cons_zero, List.getD_cons_succ, h19, e0, e1, e2, e3, e4, e5, e6, e7, e8, e9, e10, e11, e12, e13, e14, e15, e16, e17, e18]
    clear h19 e0 e1 e2 e3 e4 e5 e6 e7 e8 e9 e10 e11 e12 e13 e14 e15 e16 e17 e18
    go_wp2_with fail
    refine (clone_any a4 len4 cap4 xn wx l4 (s4.below hb)).mono ?_
    rintro e W4 ⟨b4, c4, rfl, C4⟩
    have g4 := hag.mono C4.below
    have hb4 : Below w.heap.size w W4 := below_step hb C4.below
    have hA := g4.lt
    have n4 := hide C4.nilness
    have o4 : Off A b4 len4 := .inr fun ad h => by have := C4.own ad h; have := hag.lt; omega
    have r4 := C4.row
    have h12 := g4.c12
    have h13 := g4.c13
    have k12 := g4.f12
    have k13 := g4.f13
    have G4 := hide g4
    clear hag C4 g4
    go_wp2_with fail
    refine (handle_any A a0 a3 b4 len4 c4 W4 _ _ h12 h13 k12 k13).mono ?_
    rintro e W5 ⟨rfl, hW5⟩
    have hb5 : Below w.heap.size w W5 := by rw [hW5]; exact hb4.trans (handled_below W4 _ _ a0 a3 _ hlo hb4.size)
    have cell : ∀ o, o ≠ 12 → o ≠ 13 → W5.cell? ⟨A, o, none⟩ = W4.cell? ⟨A, o, none⟩ := fun o h1 h2 => by rw [hW5]; exact handled_other W4 A A o a0 a3 _ hA (.inr ⟨h1, h2⟩)
    have c1 := (cell 1 (by decide) (by decide)).trans G4.out.c1
    have c2 := (cell 2 (by decide) (by decide)).trans G4.out.c2
    have c5 := (cell 5 (by decide) (by decide)).trans G4.out.c5
    have c6 := (cell 6 (by decide) (by decide)).trans G4.out.c6
    have c7 := (cell 7 (by decide) (by decide)).trans G4.out.c7
    have c8 := (cell 8 (by decide) (by decide)).trans G4.out.c8
    have c9 := (cell 9 (by decide) (by decide)).trans G4.out.c9
    have c10 := (cell 10 (by decide) (by decide)).trans G4.out.c10
    have c11 := (cell 11 (by decide) (by decide)).trans G4.out.c11
    have c12 : W5.cell? ⟨A, 12, none⟩ = some (.int .i64 a3) := by rw [hW5]; exact handled_12 _ _ _ _ _ _ h12
    have c13 : W5.cell? ⟨A, 13, none⟩ = some (.slice b4 len4 c4) := by rw [hW5]; exact handled_13 _ _ _ _ _ _ h13
    have r4' : Row W5 b4 len4 xn := by rw [hW5]; exact handled_off _ _ _ r4 o4
    have rp : Row W5 bp len5 xp := by rw [hW5]; exact handled_off _ _ _ G4.out.rp G4.out.op
    have ra : Row W5 ba len7 xa := by rw [hW5]; exact handled_off _ _ _ G4.out.ra G4.out.oa
    have ro : Row W5 bo len7 (fun _ => 0) := by rw [hW5]; exact handled_off _ _ _ G4.out.ro G4.out.oo
    have np := hide G4.out.np
    have na := hide G4.out.na
    have q4 : Row W5 a4 len4 xn := Row.below s4.row hb5
    have q5 : Row W5 a5 len5 xp := Row.below s5.row hb5
    have q7 : Row W5 a7 len7 xa := Row.below s7.row hb5
    have HB := hide hb5
    clear cell hW5 h12 h13 k12 k13 r4 o4 G4 hb hb4 hb5 s2 s4 s5 s7 hA
    have e3 : (a3 != a3) = false := by simp
    have e6 : (a6 != a6) = false := by simp
    have e8 : (a8 != a8) = false := by simp
    have e9 : (a9 != a9) = false := by simp
    have e7 : ((len7 : Int) != (len7 : Int)) = false := by simp
    have e0 : ((0 : Int) != 0) = false := by simp
    go_wp2_with fail
    refine (eq_any b4 a4 len4 c4 cap4 xn W5 l4 n4.out r4' q4).mono ?_
    rintro e _ ⟨rfl, m1, rfl⟩
    clear r4' q4 n4
    go_wp2_with fail
    refine (eq_any bp a5 len5 cp cap5 xp (W5.drewN m1) l5 np.out (rp.drewN _) (q5.drewN _)).mono ?_
    rintro e _ ⟨rfl, m2, rfl⟩
    clear rp q5 np
    go_wp2_with fail
    refine (eq64_any ba a7 len7 ca cap7 xa (W5.drewN (m1 + m2)) l7 na.out (ra.drewN _) (q7.drewN _)).mono ?_
    rintro e _ ⟨rfl, m3, rfl⟩
    clear ra q7 na
    have hn31 := fun w => run_neq_slice_nil_any (P := Yba.prog) w 31 _ none 0 0 0 0 Yba.underlying31
    go_wp2
    clear hn31 c1 c2 c5 c6 c7 c8 c9 c11 c12 c13
    go_loop [23] (fun i => ∃ k : Nat, k ≤ len7 ∧ i = .int .i64 k) (fun i => len7 - (intOf i).toNat)
    case atStart => exact ⟨0, Nat.zero_le _, rfl⟩
    case round =>
      obtain ⟨k, hk, rfl⟩ := hrel
      by_cases hlt : k < len7
      · have j0 : (k : Int) < (len7 : Int) := by omega
        rcases ro with ro | ⟨b, o, hbo, ro⟩
        · omega
        · have ck := ro k hlt
          rw [hbo] at c10
          clear ro hbo
          go_wp2
          go_round
          case rel => exact ⟨k + 1, by omega, by go_num⟩
          case measure => simp [intOf]; omega
      · go_wp2
        go_ret
        exact ⟨rfl, below_drewN HB.out _⟩
end Go.Proofs.Ybulkankc.Bb
