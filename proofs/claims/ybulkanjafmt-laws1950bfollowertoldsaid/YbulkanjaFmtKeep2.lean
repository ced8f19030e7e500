/-
  THE WALK of (*total).keep (6), where nothing is placed.
-/
import Derived.Test.YbulkanjaFmtKeep
namespace Go.Proofs.YbulkanjaFmt.Tot
open Go.RowKit Go.Maps Go.Proofs.YbulkanjaFmt.MapsF

set_option maxRecDepth 100000 in
set_option maxHeartbeats 3200000 in
/-- Not at the sequencer, or pending, or the sender out: deliver. -/
theorem keep_other (C : Cfg) (O : C.Ok) (x : St) (L : List Nat) (p : Dlv) (dw : Value) (s m bb i : Nat) (w : World) (hs : s < 3) (hm : m ≤ 7) (hx : x.plm = plf L) (hL : ∀ s ∈ L, s < 3) (hlen : L.length ≤ 2000) (hdv : p.dv ≤ L.length) (hDl : p.D.length ≤ 2000) (hnH : x.nH ≤ 5000)
    (S0 : PS w C (dlvd x L p dw)) (hb : w.heap[bb]? = some (.cells #[.int .u8 ((i % 256 : Nat) : Int), .int .u8 ((i / 256 : Nat) : Int)] 5)) (hbb : C.base ≤ bb) (hi : i < 65536)
    (c1 : C.self ≠ C.seq ∨ C.pend = true ∨ C.out s = true) :
    Calls Ybaf.prog 6 #[.pointer (some ⟨C.a 1, 0, none⟩), .agg #[.int .i64 (s : Int), .int .u64 (m : Int)], .slice (some ⟨bb, 0, none⟩) 2 2] w fun e w' => e = .returned .nilIface ∧ ∃ dw',
      PS w' C (dlvd x.more L (Dlv.run L (L.length - p.dv) (p.put s m bb i)) dw') ∧ Keeps (Mine C x.bv dw) w w' ∧ Moved w dw dw' := by
  have s0 : (0 : Int) ≤ (s : Int) := by omega
  have s3 : (s : Int) < 3 := by omega
  have hm64 : m < 18446744073709551616 := by omega
  have HL := hide hL
  have HX := hide hx
  have hlt : ∀ i, i < 10 → C.a i < w.heap.size := fun i hi => Nat.lt_of_lt_of_le (O.lt i hi) S0.hbase
  have l1 := hlt 1 (by decide)
  have l2 := hlt 2 (by decide)
  have l5 := hlt 5 (by decide)
  have cP6 : w.cell? ⟨C.a 1, 6, none⟩ = _ := cell_of_row w _ 6 _ _ _ S0.hP
  simp only [List.getElem?_toArray, List.getElem?_cons_succ, List.getElem?_cons_zero] at cP6
  have cH : w.cell? ⟨C.a 2, s, none⟩ = some (.map (some (C.a (7 + s)))) := three (u := fun t => .map (some (C.a (7 + t)))) S0.hH s hs
  have S1 := (S0.alloc O (.cells #[.int .i64 (s : Int), .int .u64 (m : Int)] 38)).drew O
  obtain ⟨w5, hrun5, hM5, ht5⟩ := (S1.hh s hs).store (t := 63) (e := 40) Ybaf.underlying63 (by show x.nH < maxLen; unfold maxLen; omega) m hm64 (bodyV (bb, i))
  have S5 := S1.put O s m bb i hs ht5 (Nat.le_succ _) hM5 ((Below.heap_alloc w _ _ (Array.getElem?_eq_some_iff.1 hb).1).trans hb) hbb hi
  have K5 : Keeps (Mine C x.bv dw) w w5 := (((Keeps.refl _ w).alloc (.cells #[.int .i64 (s : Int), .int .u64 (m : Int)] 38)).drew).turned ht5 (mine_at (7 + s) (by omega))
  have hne : w.heap.size ≠ C.a (7 + s) := by have := hlt (7 + s) (by omega); omega
  have j0 : w5.cell? ⟨w.heap.size, 0, none⟩ = some (.int .i64 (s : Int)) := (turned_cell ht5 ⟨w.heap.size, 0, none⟩ hne).trans (World.cell?_alloc_at _ _ _ _ rfl)
  have e5 : PS w5 C (dlvd x.more L (p.put s m bb i) dw) := S5
  have HS5 := hide e5
  have HK5 := hide K5
  simp only [bodyV] at hrun5
  clear S0 S1 S5 hM5 ht5 hL K5 e5 hb hx
  go_enter Ybaf.func6, Ybaf.ntmps6
  go_wp2_with fail
  apply wp_region_post (fun w2 => w2 = w5)
  case h =>
    go_region
    all_goals exact ⟨rfl, rfl⟩
  intro w9 h9
  rw [h9]
  clear h9 w9 hrun5 cP6 cH l1 l2 l5
  have l0 : w.heap.size < w5.heap.size := World.block_lt_of_cell? w5 _ j0
  have cP0 : w5.cell? ⟨C.a 1, 0, none⟩ = _ := cell_of_row w5 _ 0 _ _ _ HS5.out.hP
  have cP4 : w5.cell? ⟨C.a 1, 4, none⟩ = _ := cell_of_row w5 _ 4 _ _ _ HS5.out.hP
  have cP5 : w5.cell? ⟨C.a 1, 5, none⟩ = _ := cell_of_row w5 _ 5 _ _ _ HS5.out.hP
  have cP13 : w5.cell? ⟨C.a 1, 13, none⟩ = _ := cell_of_row w5 _ 13 _ _ _ HS5.out.hP
  simp only [List.getElem?_toArray, List.getElem?_cons_succ, List.getElem?_cons_zero] at cP0 cP4 cP5 cP13
  have cO : w5.cell? ⟨C.a 5, s, none⟩ = some (.bool (C.out s)) := three (u := fun t => .bool (C.out t)) HS5.out.hO s hs
  go_wp2_with fail
  have hcase : ((C.self == C.seq) = false ∧ decide (C.self = C.seq) = false) ∨ C.self = C.seq ∧ C.pend = true ∨ C.self = C.seq ∧ C.pend = false ∧ C.out s = true := by
    by_cases h : C.self = C.seq
    · rcases c1 with c1 | c1 | c1
      · exact absurd h c1
      · simp [h, c1]
      · cases hp : C.pend <;> simp [h, c1]
    · simp [h]
  rcases hcase with ⟨hd, hd2⟩ | ⟨he, hp⟩ | ⟨he, hp, ho⟩
  all_goals
    try rw [he] at cP0
    try rw [hp] at cP13
    try rw [ho] at cO
    go_quiet (fail)
    go_wp2_with (go_at_call 9; refine (deliver_any C O x.more L (p.put s m bb i) dw _ HX.out HL.out (HS5.out.drewN O _) (by omega) hdv (by show p.D.length ≤ _; omega)).mono ?_; rintro e w8 ⟨rfl, dw', S8, K8, M8⟩)
    have HE8 := hide S8
    have HK8 := hide K8
    have HM8 := hide M8
    clear S8 K8 M8
    go_wp2
    go_ret
    exact ⟨rfl, dw', HE8.out, (HK5.out.drewN nq).trans HK8.out, HM8.out.size_le HK5.out.size⟩
end Go.Proofs.YbulkanjaFmt.Tot
