/-
  THE WALK of (*total).keep (6).
-/
import Derived.Test.YbulkanjaFmtRun
namespace Go.Proofs.YbulkanjaFmt.Tot
open Go.RowKit Go.Maps Go.Proofs.YbulkanjaFmt.MapsF

/-- The body is held. -/
def Dlv.put (p : Dlv) (s m bb i : Nat) : Dlv := { p with hv := updF p.hv s (updF (p.hv s) m (some (bb, i))) }
def St.more (x : St) : St := { x with nH := x.nH + 1 }

theorem take_more (L M : List Nat) (d : Nat) (h : d ≤ L.length) : (L ++ M).take d = L.take d := List.take_append_of_le_length h
theorem dlvd_more (x : St) (L M : List Nat) (p : Dlv) (dw : Value) (h : p.dv ≤ L.length) : dlvd x (L ++ M) p dw = dlvd x L p dw := by
  simp only [dlvd, take_more L M p.dv h]

theorem Moved.size_le {w w1 : World} {v v' : Value} (h : Moved w1 v v') (hs : w.heap.size ≤ w1.heap.size) : Moved w v v' := h.imp id (fun h k hk => Nat.le_trans hs (h k hk))

set_option maxRecDepth 100000 in
set_option maxHeartbeats 3200000 in
/-- At the sequencer, not pending, the sender not out: place, then deliver. -/
theorem keep_seq (C : Cfg) (O : C.Ok) (x : St) (L : List Nat) (p : Dlv) (bv dw : Value) (s m bb i : Nat) (w : World) (hs : s < 3) (hm : m ≤ 7) (hL : ∀ s ∈ L, s < 3) (hlen : L.length ≤ 2000) (hdv : p.dv = L.length) (hDl : p.D.length ≤ 2000) (hnH : x.nH ≤ 5000)
    (hbd : ∀ q, 8 < q → p.hv s q = none) (S0 : PS w C (dlvd (placed x L bv) L p dw)) (hb : w.heap[bb]? = some (.cells #[.int .u8 ((i % 256 : Nat) : Int), .int .u8 ((i / 256 : Nat) : Int)] 5)) (hbb : C.base ≤ bb) (hi : i < 65536)
    (c1 : C.self = C.seq) (c2 : C.pend = false) (c3 : C.out s = false) :
    Calls Ybaf.prog 6 #[.pointer (some ⟨C.a 1, 0, none⟩), .agg #[.int .i64 (s : Int), .int .u64 (m : Int)], .slice (some ⟨bb, 0, none⟩) 2 2] w fun e w' => e = .returned .nilIface ∧ ∃ k bv' dw', k ≤ 9 ∧
      PS w' C (dlvd (placed x.more (L ++ List.replicate k s) bv') (L ++ List.replicate k s) (Dlv.run (L ++ List.replicate k s) k (p.put s m bb i)) dw') ∧ Keeps (Mine C bv dw) w w' ∧ Moved w bv bv' ∧ Moved w dw dw' ∧
      (∀ j, j < k → ((p.put s m bb i).hv s (L.count s + 1 + j)).isSome = true) ∧ (p.put s m bb i).hv s (L.count s + 1 + k) = none := by
  have s0 : (0 : Int) ≤ (s : Int) := by omega
  have s3 : (s : Int) < 3 := by omega
  have hm64 : m < 18446744073709551616 := by omega
  have HL := hide hL
  have HBD := hide hbd
  have hlt : ∀ i, i < 10 → C.a i < w.heap.size := fun i hi => Nat.lt_of_lt_of_le (O.lt i hi) S0.hbase
  have l1 := hlt 1 (by decide)
  have l2 := hlt 2 (by decide)
  have l5 := hlt 5 (by decide)
  have cP6 : w.cell? ⟨C.a 1, 6, none⟩ = _ := cell_of_row w _ 6 _ _ _ S0.hP
  simp only [List.getElem?_toArray, List.getElem?_cons_succ, List.getElem?_cons_zero] at cP6
  have cH : w.cell? ⟨C.a 2, s, none⟩ = some (.map (some (C.a (7 + s)))) := three (u := fun t => .map (some (C.a (7 + t)))) S0.hH s hs
  have S1 := (S0.alloc O (.cells #[.int .i64 (s : Int), .int .u64 (m : Int)] 38)).drew O
  obtain ⟨w5, hrun5, hM5, ht5⟩ := (S1.hh s hs).store (t := 63) (e := 40) Ybaf.underlying63 (by show x.nH < maxLen; unfold maxLen; omega) m hm64 (bodyV (bb, i))
  have S5 := S1.put O s m bb i hs ht5 (Nat.le_succ _) hM5 ((Below.heap_alloc w _ _ (Array.getElem?_eq_some_iff.1 hb).1).trans hb) hbb hi
  have K5 : Keeps (Mine C bv dw) w w5 := (((Keeps.refl _ w).alloc (.cells #[.int .i64 (s : Int), .int .u64 (m : Int)] 38)).drew).turned ht5 (mine_at (7 + s) (by omega))
  have hne : w.heap.size ≠ C.a (7 + s) := by have := hlt (7 + s) (by omega); omega
  have j0 : w5.cell? ⟨w.heap.size, 0, none⟩ = some (.int .i64 (s : Int)) := (turned_cell ht5 ⟨w.heap.size, 0, none⟩ hne).trans (World.cell?_alloc_at _ _ _ _ rfl)
  have e5 : PS w5 C (placed (dlvd x.more L (p.put s m bb i) dw) L bv) := S5
  have HS5 := hide e5
  have HK5 := hide K5
  simp only [bodyV] at hrun5
  clear S0 S1 S5 hM5 ht5 hL hbd K5 e5 hb
  go_enter Ybaf.func6, Ybaf.ntmps6
  go_wp2_with fail
  apply wp_region_post (fun w2 => w2 = w5)
  case h =>
    go_region
    all_goals exact ⟨rfl, rfl⟩
  intro w9 h9
  rw [h9]
  clear h9 w9 hrun5 cP6 cH l1 l2 l5
  have l0 : w.heap.size < w5.heap.size := World.block_lt_of_cell? w5 _ j0
  have cP0 : w5.cell? ⟨C.a 1, 0, none⟩ = _ := cell_of_row w5 _ 0 _ _ _ HS5.out.hP
  have cP4 : w5.cell? ⟨C.a 1, 4, none⟩ = _ := cell_of_row w5 _ 4 _ _ _ HS5.out.hP
  have cP5 : w5.cell? ⟨C.a 1, 5, none⟩ = _ := cell_of_row w5 _ 5 _ _ _ HS5.out.hP
  have cP13 : w5.cell? ⟨C.a 1, 13, none⟩ = _ := cell_of_row w5 _ 13 _ _ _ HS5.out.hP
  simp only [List.getElem?_toArray, List.getElem?_cons_succ, List.getElem?_cons_zero] at cP0 cP4 cP5 cP13
  rw [c1] at cP0
  rw [c2] at cP13
  have cO : w5.cell? ⟨C.a 5, s, none⟩ = some (.bool false) := (three (u := fun t => .bool (C.out t)) HS5.out.hO s hs).trans (by rw [c3])
  go_wp2_with fail
  go_quiet (fail)
  clear cP0 cP4 cP5 cP13 cO
  have l2 : w.heap.size < (w5.drewN nq).heap.size := l0
  have k0 : (w5.drewN nq).cell? ⟨w.heap.size, 0, none⟩ = some (.int .i64 (s : Int)) := j0
  have HS6 := hide (HS5.out.drewN O nq)
  have HK6 := hide (HK5.out.drewN nq)
  clear j0 l0
  generalize w5.drewN nq = w6 at *
  go_wp2_with (go_at_call 8; refine (place_any C O (dlvd x.more L (p.put s m bb i) dw) L s bv w6 hs HS6.out (fun q hq => by rw [show (dlvd x.more L (p.put s m bb i) dw).hv s q = if q = m then some (bb, i) else p.hv s q from by simp [dlvd, Dlv.put, updF], if_neg (by omega), HBD.out q hq]) hlen).mono ?_; rintro e w7 ⟨rfl, k, bv', hk9, S7, K7, M7, h7a, h7b⟩)
  have e7 : PS w7 C (dlvd (placed x.more (L ++ List.replicate k s) bv') (L ++ List.replicate k s) (p.put s m bb i) dw) := by
    rw [dlvd_more _ L _ _ _ (by show p.dv ≤ _; omega)]
    exact S7
  have HE7 := hide e7
  have HK7 := hide K7
  have HM7 := hide M7
  have H7A := hide h7a
  have H7B := hide h7b
  clear e7 S7 K7 M7 h7a h7b
  go_wp2_with (go_at_call 9; refine (deliver_any C O (placed x.more (L ++ List.replicate k s) bv') (L ++ List.replicate k s) (p.put s m bb i) dw w7 rfl (fun t ht => by rcases List.mem_append.1 ht with h | h; exact HL.out t h; rw [(List.mem_replicate.1 h).2]; exact hs) HE7.out (by simp; omega) (by show p.dv ≤ _; simp; omega) (by show p.D.length ≤ _; omega)).mono ?_; rintro e w8 ⟨rfl, dw', S8, K8, M8⟩)
  have HE8 := hide S8
  have HK8 := hide K8
  have HM8 := hide M8
  clear S8 K8 M8
  go_wp2
  go_ret
  refine ⟨rfl, k, bv', dw', hk9, ?_, ?_, ?_, ?_, H7A.out, H7B.out⟩
  · have e : (L ++ List.replicate k s).length - (p.put s m bb i).dv = k := by
      show _ - p.dv = k
      simp
      omega
    have := HE8.out
    rw [e] at this
    exact this
  · have h := HK6.out.trans HK7.out
    exact h.then HK8.out (fun b hb hm => mine_moved (w := w) (dw' := dw) (HM7.out.size_le HK6.out.size) (.inl rfl) hb hm)
  · exact HM7.out.size_le HK6.out.size
  · exact HM8.out.size_le (HK6.out.trans HK7.out).size
end Go.Proofs.YbulkanjaFmt.Tot
