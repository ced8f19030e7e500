/-
  THE WALK of zzs1950bnew (5): the member as it is made.
-/
import Derived.Test.YbulkanjaFmtRun
import Derived.Test.YbulkanjaFmtOrders2
namespace Go.Proofs.YbulkanjaFmt.Tot
open Go.RowKit Go.Maps Go.Proofs.YbulkanjaFmt.MapsF Go.Proofs.YbulkanjaFmt.Orders Go.Proofs.YbulkanjaFmt.Orders2

theorem Ybaf.mk56 (w : World) : ∃ o, (Instr.makeSlice 56 (.int .i64 3) (.int .i64 3)).run Ybaf.prog w = .ok (.slice (some ⟨w.heap.size, 0, none⟩) 3 3) (w.alloc o) := ⟨.cells #[.bool false, .bool false, .bool false] 4, by kernel_rfl⟩
theorem Ybaf.mk48 (w : World) : (Instr.makeSlice 48 (.int .i64 3) (.int .i64 3)).run Ybaf.prog w = .ok (.slice (some ⟨w.heap.size, 0, none⟩) 3 3) (w.alloc (.cells #[.int .u64 0, .int .u64 0, .int .u64 0] 32)) := by kernel_rfl

def nDst (i : Nat) : Tmp := [11, 12, 13, 14, 15, 16, 17, 18, 19, 20, 21, 22, 23, 24, 25, 26, 27, 28, 29, 30, 31, 32, 33, 10].getD i 0
def nMaker (i : Nat) : Bool := [false, false, false, false, false, false, false, false, false, false, false, true, true, true, true, true, true, true, true, false, false, false, true, false].getD i false

def nMap (lo : Nat) (x : Value) (w : World) : Prop := ∃ b, x = .map (some b) ∧ w.heap[b]? = some (.map #[] 0) ∧ lo ≤ b
def nRow (lo : Nat) (cs : Array Value) (t : TypeId) (x : Value) (w : World) : Prop := ∃ b, x = .slice (some ⟨b, 0, none⟩) 3 3 ∧ w.heap[b]? = some (.cells cs t) ∧ lo ≤ b
def nAny (x : Value) : Prop := ∃ b, x = .slice (some ⟨b, 0, none⟩) 3 3

def nCs (self seq : Int) (T : Nat) (pend : Bool) (bm b5 b2 b6 b4 b3 bc : Nat) : Array Value := #[.int .i64 self, .slice (some ⟨bm, 0, none⟩) 3 3, .iface 24 (.pointer (some ⟨T, 0, none⟩)), .int .u64 0, .int .i64 seq, .slice (some ⟨b5, 0, none⟩) 3 3, .slice (some ⟨b2, 0, none⟩) 3 3, .map (some b6), .int .u64 0, .int .u64 0, .slice (some ⟨b4, 0, none⟩) 3 3, .int .u64 0, .slice (some ⟨b3, 0, none⟩) 3 3, .bool pend, .slice (some ⟨bc, 0, none⟩) 3 3]

def nPost (self seq : Int) (T B lo : Nat) (o0 o1 o2 pend : Bool) (i : Nat) (v : Nat → Value) (x : Value) (w : World) : Prop :=
  match i with
  | 0 => x = .int .i64 self
  | 1 => nAny x
  | 2 => x = .pointer (some ⟨T, 0, none⟩)
  | 3 => x = .iface 24 (.pointer (some ⟨T, 0, none⟩))
  | 4 => x = .int .i64 seq
  | 5 => x = .pointer (some ⟨B, 0, none⟩)
  | 6 => x = .bool o0
  | 7 => x = .pointer (some ⟨B, 1, none⟩)
  | 8 => x = .bool o1
  | 9 => x = .pointer (some ⟨B, 2, none⟩)
  | 10 => x = .bool o2
  | 11 => nRow lo #[.bool o0, .bool o1, .bool o2] 4 x w
  | 12 => nMap lo x w
  | 13 => nMap lo x w
  | 14 => nMap lo x w
  | 15 => nRow lo #[v 12, v 13, v 14] 63 x w
  | 16 => nMap lo x w
  | 17 => nRow lo #[.int .u64 0, .int .u64 0, .int .u64 0] 32 x w
  | 18 => nRow lo #[.int .u64 0, .int .u64 0, .int .u64 0] 32 x w
  | 19 => x = .bool pend
  | 20 => nAny x
  | 21 => ∃ bm b5 b2 b6 b4 b3 bc, x = .agg (nCs self seq T pend bm b5 b2 b6 b4 b3 bc) ∧ v 11 = .slice (some ⟨b5, 0, none⟩) 3 3 ∧ v 15 = .slice (some ⟨b2, 0, none⟩) 3 3 ∧ v 16 = .map (some b6) ∧ v 17 = .slice (some ⟨b4, 0, none⟩) 3 3 ∧ v 18 = .slice (some ⟨b3, 0, none⟩) 3 3
  | 22 => ∃ b cs, x = .pointer (some ⟨b, 0, none⟩) ∧ v 21 = .agg cs ∧ w.heap[b]? = some (.cells cs 60) ∧ lo ≤ b
  | 23 => x = v 22
  | _ => True

theorem lt_blk {w : World} {b : Nat} {o : Obj} (h : w.heap[b]? = some o) : b < w.heap.size := (Array.getElem?_eq_some_iff.1 h).1

theorem nPost_mono (self seq : Int) (T B lo : Nat) (o0 o1 o2 pend : Bool) : ∀ i v x w w', nPost self seq T B lo o0 o1 o2 pend i v x w → Below w.heap.size w w' → nPost self seq T B lo o0 o1 o2 pend i v x w' := by
  intro i v x w w' h hb
  unfold nPost nMap nRow at h ⊢
  split at h
  all_goals first
    | exact h
    | (obtain ⟨b, h1, h2, h3⟩ := h; exact ⟨b, h1, (hb.block b (lt_blk h2)).trans h2, h3⟩)
    | (obtain ⟨b, cs, h1, h2, h3, h4⟩ := h; exact ⟨b, cs, h1, h2, (hb.block b (lt_blk h3)).trans h3, h4⟩)

/-- The member at p, new. -/
def NewAt (self seq : Int) (T : Nat) (o0 o1 o2 pend : Bool) (w : World) (p : Nat) (w' : World) : Prop :=
  (∃ a : Nat → Nat, ∃ mem clo, a 1 = p ∧ Below w.heap.size w w' ∧
      (∀ i, 0 < i → i < 10 → w.heap.size ≤ a i) ∧ (∀ i j, 0 < i → 0 < j → i < 10 → j < 10 → i ≠ j → a i ≠ a j) ∧
      w'.heap[a 1]? = some (.cells #[.int .i64 self, mem, .iface 24 (.pointer (some ⟨T, 0, none⟩)), .int .u64 0, .int .i64 seq, .slice (some ⟨a 5, 0, none⟩) 3 3, .slice (some ⟨a 2, 0, none⟩) 3 3, .map (some (a 6)), .int .u64 0, .int .u64 0, .slice (some ⟨a 4, 0, none⟩) 3 3, .int .u64 0, .slice (some ⟨a 3, 0, none⟩) 3 3, .bool pend, clo] 60) ∧
      w'.heap[a 2]? = some (.cells #[.map (some (a 7)), .map (some (a 8)), .map (some (a 9))] 63) ∧ w'.heap[a 3]? = some (.cells #[.int .u64 0, .int .u64 0, .int .u64 0] 32) ∧ w'.heap[a 4]? = some (.cells #[.int .u64 0, .int .u64 0, .int .u64 0] 32) ∧
      w'.heap[a 5]? = some (.cells #[.bool o0, .bool o1, .bool o2] 4) ∧ ∀ i, 5 < i → i < 10 → w'.heap[a i]? = some (.map #[] 0))

set_option maxRecDepth 100000 in
set_option maxHeartbeats 3200000 in
theorem new_any (self seq : Int) (T : Nat) (o0 o1 o2 pend : Bool) (w : World) :
    Calls Ybaf.prog 5 #[.int .i64 self, .int .i64 seq, .pointer (some ⟨T, 0, none⟩), .agg #[.bool o0, .bool o1, .bool o2], .bool pend] w fun e w' => ∃ p, e = .returned (.pointer (some ⟨p, 0, none⟩)) ∧ NewAt self seq T o0 o1 o2 pend w p w' := by
  go_enter Ybaf.func5, Ybaf.ntmps5
  go_wp2_with fail
  refine Orders2.wp_region_order (by kernel_rfl) nDst nMaker (nPost self seq T w.heap.size w.heap.size o0 o1 o2 pend) 34 rfl (by kernel_rfl) (by decide) (nPost_mono self seq T w.heap.size w.heap.size o0 o1 o2 pend) ?_ ?_ ?_
  · intro k o ho v v' x wx he hp
    have hk : k < 24 := by
      rcases Nat.lt_or_ge k 24 with h | h
      · exact h
      · rw [Array.getElem?_eq_none (by simpa using h)] at ho; cases ho
    match k, hk with
    | 15, _ =>
      simp at ho
      subst ho
      have e1 : v 12 = v' 12 := he ⟨12, .data⟩ (by simp) rfl
      have e2 : v 13 = v' 13 := he ⟨13, .data⟩ (by simp) rfl
      have e3 : v 14 = v' 14 := he ⟨14, .data⟩ (by simp) rfl
      simp only [nPost] at hp ⊢
      rw [← e1, ← e2, ← e3]
      exact hp
    | 21, _ =>
      simp at ho
      subst ho
      have e1 : v 11 = v' 11 := he ⟨11, .data⟩ (by simp) rfl
      have e2 : v 15 = v' 15 := he ⟨15, .data⟩ (by simp) rfl
      have e3 : v 16 = v' 16 := he ⟨16, .data⟩ (by simp) rfl
      have e4 : v 17 = v' 17 := he ⟨17, .data⟩ (by simp) rfl
      have e5 : v 18 = v' 18 := he ⟨18, .data⟩ (by simp) rfl
      simp only [nPost] at hp ⊢
      rw [← e1, ← e2, ← e3, ← e4, ← e5]
      exact hp
    | 22, _ =>
      simp at ho
      subst ho
      have e1 : v 21 = v' 21 := he ⟨21, .data⟩ (by simp) rfl
      simp only [nPost] at hp ⊢
      rw [← e1]
      exact hp
    | 23, _ =>
      simp at ho
      subst ho
      have e1 : v 22 = v' 22 := he ⟨22, .data⟩ (by simp) rfl
      simp only [nPost] at hp ⊢
      rw [← e1]
      exact hp
    | 0, _ | 1, _ | 2, _ | 3, _ | 4, _ | 5, _ | 6, _ | 7, _ | 8, _ | 9, _ | 10, _ | 11, _ | 12, _ | 13, _ | 14, _ | 16, _ | 17, _ | 18, _ | 19, _ | 20, _ => exact hp
  · refine ⟨?_, ?_, ?_, ?_, ?_, ?_, ?_, ?_, ?_, ?_, ?_, ?_, ?_, ?_, ?_, ?_, ?_, ?_, ?_, ?_, ?_, ?_, ?_, ?_, trivial⟩
    · intro a wx v hb hout hdep
      have e : a.tmps[0]?.getD undef = .int .i64 self := hout 0 (by decide)
      clear hdep hout
      exact .inl ⟨_, wx, by go_simp, Below.refl _ _, rfl, fun h => by cases h⟩
    · intro a wx v hb hout hdep
      clear hdep hout
      exact .inl ⟨.slice (some ⟨wx.heap.size, 0, none⟩) 3 3, wx.alloc (.cells #[.string { data := #[97] }, .string { data := #[98] }, .string { data := #[99] }] 9), by go_simp, (Below.refl _ _).alloc (Nat.le_refl _) _, ⟨_, rfl⟩, fun h => by cases h⟩
    · intro a wx v hb hout hdep
      have e : a.tmps[2]?.getD undef = .pointer (some ⟨T, 0, none⟩) := hout 2 (by decide)
      clear hdep hout
      exact .inl ⟨_, wx, by go_simp, Below.refl _ _, rfl, fun h => by cases h⟩
    · intro a wx v hb hout hdep
      obtain ⟨p, q⟩ : a.tmps[13]?.getD undef = v 2 ∧ v 2 = .pointer (some ⟨T, 0, none⟩) := hdep ⟨2, .data⟩ (by simp) rfl
      rw [q] at p
      clear hdep hout
      exact .inl ⟨_, wx, by go_simp, Below.refl _ _, rfl, fun h => by cases h⟩
    · intro a wx v hb hout hdep
      have e : a.tmps[1]?.getD undef = .int .i64 seq := hout 1 (by decide)
      clear hdep hout
      exact .inl ⟨_, wx, by go_simp, Below.refl _ _, rfl, fun h => by cases h⟩
    · intro a wx v hb hout hdep
      have e : a.tmps[8]?.getD undef = .pointer (some ⟨w.heap.size, 0, none⟩) := hout 8 (by decide)
      clear hdep hout
      exact .inl ⟨_, wx, by go_simp, Below.refl _ _, rfl, fun h => by cases h⟩
    · intro a wx v hb hout hdep
      obtain ⟨p, q⟩ : a.tmps[16]?.getD undef = v 5 ∧ v 5 = .pointer (some ⟨w.heap.size, 0, none⟩) := hdep ⟨5, .data⟩ (by simp) rfl
      rw [q] at p
      have hc : wx.cell? ⟨w.heap.size, 0, none⟩ = some (.bool o0) := (hb.cell (p := ⟨w.heap.size, 0, none⟩) (by simp)).trans (World.cell?_alloc_at _ _ _ _ rfl)
      clear hdep hout
      exact .inl ⟨_, wx, by go_simp, Below.refl _ _, rfl, fun h => by cases h⟩
    · intro a wx v hb hout hdep
      have e : a.tmps[8]?.getD undef = .pointer (some ⟨w.heap.size, 0, none⟩) := hout 8 (by decide)
      clear hdep hout
      exact .inl ⟨_, wx, by go_simp, Below.refl _ _, rfl, fun h => by cases h⟩
    · intro a wx v hb hout hdep
      obtain ⟨p, q⟩ : a.tmps[18]?.getD undef = v 7 ∧ v 7 = .pointer (some ⟨w.heap.size, 1, none⟩) := hdep ⟨7, .data⟩ (by simp) rfl
      rw [q] at p
      have hc : wx.cell? ⟨w.heap.size, 1, none⟩ = some (.bool o1) := (hb.cell (p := ⟨w.heap.size, 1, none⟩) (by simp)).trans (World.cell?_alloc_at _ _ _ _ rfl)
      clear hdep hout
      exact .inl ⟨_, wx, by go_simp, Below.refl _ _, rfl, fun h => by cases h⟩
    · intro a wx v hb hout hdep
      have e : a.tmps[8]?.getD undef = .pointer (some ⟨w.heap.size, 0, none⟩) := hout 8 (by decide)
      clear hdep hout
      exact .inl ⟨_, wx, by go_simp, Below.refl _ _, rfl, fun h => by cases h⟩
    · intro a wx v hb hout hdep
      obtain ⟨p, q⟩ : a.tmps[20]?.getD undef = v 9 ∧ v 9 = .pointer (some ⟨w.heap.size, 2, none⟩) := hdep ⟨9, .data⟩ (by simp) rfl
      rw [q] at p
      have hc : wx.cell? ⟨w.heap.size, 2, none⟩ = some (.bool o2) := (hb.cell (p := ⟨w.heap.size, 2, none⟩) (by simp)).trans (World.cell?_alloc_at _ _ _ _ rfl)
      clear hdep hout
      exact .inl ⟨_, wx, by go_simp, Below.refl _ _, rfl, fun h => by cases h⟩
    · intro a wx v hb hout hdep
      obtain ⟨p0, q0⟩ : a.tmps[17]?.getD undef = v 6 ∧ v 6 = .bool o0 := hdep ⟨6, .data⟩ (by simp) rfl
      obtain ⟨p1, q1⟩ : a.tmps[19]?.getD undef = v 8 ∧ v 8 = .bool o1 := hdep ⟨8, .data⟩ (by simp) rfl
      obtain ⟨p2, q2⟩ : a.tmps[21]?.getD undef = v 10 ∧ v 10 = .bool o2 := hdep ⟨10, .data⟩ (by simp) rfl
      rw [q0] at p0
      rw [q1] at p1
      rw [q2] at p2
      have hlo : w.heap.size ≤ wx.heap.size := by have := hb.size; simp at this; omega
      clear hdep hout
      exact .inl ⟨.slice (some ⟨wx.heap.size, 0, none⟩) 3 3, wx.alloc (.cells #[.bool o0, .bool o1, .bool o2] 4), by go_simp, (Below.refl _ _).alloc (Nat.le_refl _) _, ⟨_, rfl, heap_alloc_new wx _, hlo⟩, fun _ b h => by simp [blk] at h; subst h; simp⟩
    · intro a wx v hb hout hdep
      have hlo : w.heap.size ≤ wx.heap.size := by have := hb.size; simp at this; omega
      clear hdep hout
      have hmm := @run_makeMap Ybaf.prog
      exact .inl ⟨.map (some wx.heap.size), wx.alloc (.map #[] 0), by go_simp, (Below.refl _ _).alloc (Nat.le_refl _) _, ⟨_, rfl, heap_alloc_new wx _, hlo⟩, fun _ b h => by simp [blk] at h; subst h; simp⟩
    · intro a wx v hb hout hdep
      have hlo : w.heap.size ≤ wx.heap.size := by have := hb.size; simp at this; omega
      clear hdep hout
      have hmm := @run_makeMap Ybaf.prog
      exact .inl ⟨.map (some wx.heap.size), wx.alloc (.map #[] 0), by go_simp, (Below.refl _ _).alloc (Nat.le_refl _) _, ⟨_, rfl, heap_alloc_new wx _, hlo⟩, fun _ b h => by simp [blk] at h; subst h; simp⟩
    · intro a wx v hb hout hdep
      have hlo : w.heap.size ≤ wx.heap.size := by have := hb.size; simp at this; omega
      clear hdep hout
      have hmm := @run_makeMap Ybaf.prog
      exact .inl ⟨.map (some wx.heap.size), wx.alloc (.map #[] 0), by go_simp, (Below.refl _ _).alloc (Nat.le_refl _) _, ⟨_, rfl, heap_alloc_new wx _, hlo⟩, fun _ b h => by simp [blk] at h; subst h; simp⟩
    · intro a wx v hb hout hdep
      obtain ⟨p0, b0, q0, _⟩ : a.tmps[23]?.getD undef = v 12 ∧ nMap w.heap.size (v 12) wx := hdep ⟨12, .data⟩ (by simp) rfl
      obtain ⟨p1, b1, q1, _⟩ : a.tmps[24]?.getD undef = v 13 ∧ nMap w.heap.size (v 13) wx := hdep ⟨13, .data⟩ (by simp) rfl
      obtain ⟨p2, b2, q2, _⟩ : a.tmps[25]?.getD undef = v 14 ∧ nMap w.heap.size (v 14) wx := hdep ⟨14, .data⟩ (by simp) rfl
      rw [q0] at p0
      rw [q1] at p1
      rw [q2] at p2
      have hlo : w.heap.size ≤ wx.heap.size := by have := hb.size; simp at this; omega
      clear hdep hout
      exact .inl ⟨.slice (some ⟨wx.heap.size, 0, none⟩) 3 3, wx.alloc (.cells #[.map (some b0), .map (some b1), .map (some b2)] 63), by go_simp, (Below.refl _ _).alloc (Nat.le_refl _) _, ⟨_, rfl, by rw [q0, q1, q2]; exact heap_alloc_new wx _, hlo⟩, fun _ b h => by simp [blk] at h; subst h; simp⟩
    · intro a wx v hb hout hdep
      have hlo : w.heap.size ≤ wx.heap.size := by have := hb.size; simp at this; omega
      clear hdep hout
      have hmm := @run_makeMap Ybaf.prog
      exact .inl ⟨.map (some wx.heap.size), wx.alloc (.map #[] 0), by go_simp, (Below.refl _ _).alloc (Nat.le_refl _) _, ⟨_, rfl, heap_alloc_new wx _, hlo⟩, fun _ b h => by simp [blk] at h; subst h; simp⟩
    · intro a wx v hb hout hdep
      have hlo : w.heap.size ≤ wx.heap.size := by have := hb.size; simp at this; omega
      clear hdep hout
      have hmk := Ybaf.mk48 wx
      exact .inl ⟨.slice (some ⟨wx.heap.size, 0, none⟩) 3 3, wx.alloc (.cells #[.int .u64 0, .int .u64 0, .int .u64 0] 32), by go_simp, (Below.refl _ _).alloc (Nat.le_refl _) _, ⟨_, rfl, heap_alloc_new wx _, hlo⟩, fun _ b h => by simp [blk] at h; subst h; simp⟩
    · intro a wx v hb hout hdep
      have hlo : w.heap.size ≤ wx.heap.size := by have := hb.size; simp at this; omega
      clear hdep hout
      have hmk := Ybaf.mk48 wx
      exact .inl ⟨.slice (some ⟨wx.heap.size, 0, none⟩) 3 3, wx.alloc (.cells #[.int .u64 0, .int .u64 0, .int .u64 0] 32), by go_simp, (Below.refl _ _).alloc (Nat.le_refl _) _, ⟨_, rfl, heap_alloc_new wx _, hlo⟩, fun _ b h => by simp [blk] at h; subst h; simp⟩
    · intro a wx v hb hout hdep
      have e : a.tmps[4]?.getD undef = .bool pend := hout 4 (by decide)
      clear hdep hout
      exact .inl ⟨_, wx, by go_simp, Below.refl _ _, rfl, fun h => by cases h⟩
    · intro a wx v hb hout hdep
      clear hdep hout
      obtain ⟨o, hmk⟩ := Ybaf.mk56 wx
      exact .inl ⟨.slice (some ⟨wx.heap.size, 0, none⟩) 3 3, wx.alloc o, by go_simp, (Below.refl _ _).alloc (Nat.le_refl _) _, ⟨_, rfl⟩, fun h => by cases h⟩
    · intro a wx v hb hout hdep
      obtain ⟨p0, q0⟩ : a.tmps[11]?.getD undef = v 0 ∧ v 0 = .int .i64 self := hdep ⟨0, .data⟩ (by simp) rfl
      obtain ⟨p1, bm, q1⟩ : a.tmps[12]?.getD undef = v 1 ∧ nAny (v 1) := hdep ⟨1, .data⟩ (by simp) rfl
      obtain ⟨p3, q3⟩ : a.tmps[14]?.getD undef = v 3 ∧ v 3 = .iface 24 (.pointer (some ⟨T, 0, none⟩)) := hdep ⟨3, .data⟩ (by simp) rfl
      obtain ⟨p4, q4⟩ : a.tmps[15]?.getD undef = v 4 ∧ v 4 = .int .i64 seq := hdep ⟨4, .data⟩ (by simp) rfl
      obtain ⟨p5, b5, q5, _⟩ : a.tmps[22]?.getD undef = v 11 ∧ nRow _ _ _ (v 11) wx := hdep ⟨11, .data⟩ (by simp) rfl
      obtain ⟨p6, b2, q6, _⟩ : a.tmps[26]?.getD undef = v 15 ∧ nRow _ _ _ (v 15) wx := hdep ⟨15, .data⟩ (by simp) rfl
      obtain ⟨p7, b6, q7, _⟩ : a.tmps[27]?.getD undef = v 16 ∧ nMap _ (v 16) wx := hdep ⟨16, .data⟩ (by simp) rfl
      obtain ⟨p8, b4, q8, _⟩ : a.tmps[28]?.getD undef = v 17 ∧ nRow _ _ _ (v 17) wx := hdep ⟨17, .data⟩ (by simp) rfl
      obtain ⟨p9, b3, q9, _⟩ : a.tmps[29]?.getD undef = v 18 ∧ nRow _ _ _ (v 18) wx := hdep ⟨18, .data⟩ (by simp) rfl
      obtain ⟨p10, q10⟩ : a.tmps[30]?.getD undef = v 19 ∧ v 19 = .bool pend := hdep ⟨19, .data⟩ (by simp) rfl
      obtain ⟨p11, bc, q11⟩ : a.tmps[31]?.getD undef = v 20 ∧ nAny (v 20) := hdep ⟨20, .data⟩ (by simp) rfl
      rw [q0] at p0
      rw [q1] at p1
      rw [q3] at p3
      rw [q4] at p4
      rw [q5] at p5
      rw [q6] at p6
      rw [q7] at p7
      rw [q8] at p8
      rw [q9] at p9
      rw [q10] at p10
      rw [q11] at p11
      clear hdep hout hb q0 q1 q3 q4 q10 q11
      refine .inl ⟨.agg (nCs self seq T pend bm b5 b2 b6 b4 b3 bc), wx, ?_, Below.refl _ _, ⟨bm, b5, b2, b6, b4, b3, bc, rfl, q5, q6, q7, q8, q9⟩, fun h => by cases h⟩
      clear q5 q6 q7 q8 q9
      go_simp
      rfl
    · intro a wx v hb hout hdep
      obtain ⟨p, bm, b5, b2, b6, b4, b3, bc, q, _⟩ : a.tmps[32]?.getD undef = v 21 ∧ nPost self seq T w.heap.size w.heap.size o0 o1 o2 pend 21 v (v 21) wx := hdep ⟨21, .data⟩ (by simp) rfl
      rw [q] at p
      have hlo : w.heap.size ≤ wx.heap.size := by have := hb.size; simp at this; omega
      clear hdep hout hb
      refine .inl ⟨.pointer (some ⟨wx.heap.size, 0, none⟩), wx.alloc (.cells (nCs self seq T pend bm b5 b2 b6 b4 b3 bc) 60), ?_, (Below.refl _ _).alloc (Nat.le_refl _) _, ⟨_, _, rfl, q, heap_alloc_new wx _, hlo⟩, fun _ b h => by simp [blk] at h; subst h; simp⟩
      clear q
      unfold nCs at p ⊢
      go_simp
    · intro a wx v hb hout hdep
      obtain ⟨p, b, cs, q, _⟩ : a.tmps[33]?.getD undef = v 22 ∧ nPost self seq T w.heap.size w.heap.size o0 o1 o2 pend 22 v (v 22) wx := hdep ⟨22, .data⟩ (by simp) rfl
      have q' := q
      rw [q] at p
      clear hdep hout hb
      exact .inl ⟨.pointer (some ⟨b, 0, none⟩), wx, by go_simp, Below.refl _ _, q.symm, fun h => by cases h⟩
  · intro v wx hb hP hM
    obtain ⟨b5, q5, h5, l5⟩ : nRow _ _ _ (v 11) wx := hP 11 (by simp)
    obtain ⟨b7, q7, h7, l7⟩ : nMap _ (v 12) wx := hP 12 (by simp)
    obtain ⟨b8, q8, h8, l8⟩ : nMap _ (v 13) wx := hP 13 (by simp)
    obtain ⟨b9, q9, h9, l9⟩ : nMap _ (v 14) wx := hP 14 (by simp)
    obtain ⟨b2, q2, h2, l2⟩ : nRow _ _ _ (v 15) wx := hP 15 (by simp)
    obtain ⟨b6, q6, h6, l6⟩ : nMap _ (v 16) wx := hP 16 (by simp)
    obtain ⟨b4, q4, h4, l4⟩ : nRow _ _ _ (v 17) wx := hP 17 (by simp)
    obtain ⟨b3, q3, h3, l3⟩ : nRow _ _ _ (v 18) wx := hP 18 (by simp)
    obtain ⟨bm, c5, c2, c6, c4, c3, bc, q21, r5, r2, r6, r4, r3⟩ : nPost self seq T w.heap.size w.heap.size o0 o1 o2 pend 21 v (v 21) wx := hP 21 (by simp)
    obtain ⟨b1, cs, q1, qc, h1, l1⟩ : nPost self seq T w.heap.size w.heap.size o0 o1 o2 pend 22 v (v 22) wx := hP 22 (by simp)
    have q23 : v 23 = v 22 := hP 23 (by simp)
    rw [q5] at r5
    rw [q2] at r2
    rw [q6] at r6
    rw [q4] at r4
    rw [q3] at r3
    cases r5
    cases r2
    cases r6
    cases r4
    cases r3
    rw [q21] at qc
    cases qc
    rw [q7, q8, q9] at h2
    let f : Nat → Nat := fun i => [0, 22, 15, 18, 17, 11, 16, 12, 13, 14].getD i 0
    let g : Nat → Nat := fun i => [0, b1, b2, b3, b4, b5, b6, b7, b8, b9].getD i 0
    have hg : ∀ i, 0 < i → i < 10 → blk (v (f i)) = some (g i) ∧ w.heap.size ≤ g i ∧ f i < 24 ∧ nMaker (f i) = true := by
      intro i h0 h10
      match i, h0, h10 with
      | 1, _, _ => exact ⟨by show blk (v 22) = _; rw [q1]; rfl, l1, by decide, rfl⟩
      | 2, _, _ => exact ⟨by show blk (v 15) = _; rw [q2]; rfl, l2, by decide, rfl⟩
      | 3, _, _ => exact ⟨by show blk (v 18) = _; rw [q3]; rfl, l3, by decide, rfl⟩
      | 4, _, _ => exact ⟨by show blk (v 17) = _; rw [q4]; rfl, l4, by decide, rfl⟩
      | 5, _, _ => exact ⟨by show blk (v 11) = _; rw [q5]; rfl, l5, by decide, rfl⟩
      | 6, _, _ => exact ⟨by show blk (v 16) = _; rw [q6]; rfl, l6, by decide, rfl⟩
      | 7, _, _ => exact ⟨by show blk (v 12) = _; rw [q7]; rfl, l7, by decide, rfl⟩
      | 8, _, _ => exact ⟨by show blk (v 13) = _; rw [q8]; rfl, l8, by decide, rfl⟩
      | 9, _, _ => exact ⟨by show blk (v 14) = _; rw [q9]; rfl, l9, by decide, rfl⟩
    have hf : ∀ i, i < 10 → ∀ j, j < 10 → i ≠ j → f i ≠ f j := by decide
    have hne : ∀ i j, 0 < i → 0 < j → i < 10 → j < 10 → i ≠ j → g i ≠ g j := fun i j hi hj hi' hj' hij e =>
      hM (f i) (f j) (hg i hi hi').2.2.1 (hg j hj hj').2.2.1 (hf i hi' j hj' hij) (hg i hi hi').2.2.2 (hg j hj hj').2.2.2 (g i) (hg i hi hi').1 (e ▸ (hg j hj hj').1)
    have hbw : Below w.heap.size w wx := (((Below.refl _ w).alloc (Nat.le_refl _) _).mono (Nat.le_refl _)).trans (hb.mono (by simp))
    have he : NewAt self seq T o0 o1 o2 pend w b1 wx := ⟨g, _, _, rfl, hbw, fun i h0 h1 => (hg i h0 h1).2.1, hne, h1, h2, h3, h4, h5, fun i h5 h10 => by
        match i, h5, h10 with
        | 6, _, _ => exact h6
        | 7, _, _ => exact h7
        | 8, _, _ => exact h8
        | 9, _, _ => exact h9⟩
    have HE := hide he
    clear he
    clear hP hM hb hg hne hf f g h1 h2 h3 h4 h5 h6 h7 h8 h9 l1 l2 l3 l4 l5 l6 l7 l8 l9
    have h23 : v 23 = .pointer (some ⟨b1, 0, none⟩) := q23.trans q1
    clear q5 q7 q8 q9 q2 q6 q4 q3 q21 q1 q23
    obtain ⟨v0, v1, v2, v3, v4, v5, v6, v7, v8, v9, v10, v11, v12, v13, v14, v15, v16, v17, v18, v19, v20, v21, v22, hv⟩ : ∃ v0 v1 v2 v3 v4 v5 v6 v7 v8 v9 v10 v11 v12 v13 v14 v15 v16 v17 v18 v19 v20 v21 v22, [v 0, v 1, v 2, v 3, v 4, v 5, v 6, v 7, v 8, v 9, v 10, v 11, v 12, v 13, v 14, v 15, v 16, v 17, v 18, v 19, v 20, v 21, v 22] = [v0, v1, v2, v3, v4, v5, v6, v7, v8, v9, v10, v11, v12, v13, v14, v15, v16, v17, v18, v19, v20, v21, v22] := ⟨_, _, _, _, _, _, _, _, _, _, _, _, _, _, _, _, _, _, _, _, _, _, _, rfl⟩
    simp only [List.cons.injEq, and_true] at hv
    obtain ⟨e0, e1, e2, e3, e4, e5, e6, e7, e8, e9, e10, e11, e12, e13, e14, e15, e16, e17, e18, e19, e20, e21, e22⟩ := hv
    simp only [List.size_toArray, List.length_cons, List.length_nil, Nat.reduceAdd, Nat.zero_add, List.range, List.range.loop, List.foldl_cons, List.foldl_nil, nDst, List.getD_cons_zero, List.getD_cons_succ, h23, e0, e1, e2, e3, e4, e5, e6, e7, e8, e9, e10, e11, e12, e13, e14, e15, e16, e17, e18, e19, e20, e21, e22]
    clear h23 e0 e1 e2 e3 e4 e5 e6 e7 e8 e9 e10 e11 e12 e13 e14 e15 e16 e17 e18 e19 e20 e21 e22
    simp only [Act.put, List.setIfInBounds_toArray, List.set_cons_zero, List.set_cons_succ]
    go_wp2
    go_ret
    exact ⟨b1, rfl, HE.out⟩
end Go.Proofs.YbulkanjaFmt.Tot
