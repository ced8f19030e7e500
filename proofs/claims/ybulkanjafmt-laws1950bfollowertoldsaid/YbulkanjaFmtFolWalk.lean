/-
  THE WALK of LawS1950BFollower (4).
-/
import Derived.Test.YbulkanjaFmtFolOrder
import Derived.Laws.MakeOwn
namespace Go.Proofs.YbulkanjaFmt.Tot
open Go.RowKit Go.Maps Go.Proofs.YbulkanjaFmt.MapsF

/-- Where the loop over the order begins. -/
theorem fol_start {self : Int} {T n : Nat} {w0 w w1 w3 : World} {P : Nat} (h : NewAt self 0 T false false false false w P w1) (hT : w.heap[T]? = some (.cells #[.slice none 0 0, .slice none 0 0] 28)) (hk : Keeps (fun _ => False) w0 w) (hT0 : w0.heap.size ≤ T)
    (ho : w3.ownsRow (w1.heap.size + 1) 38 2 (.slice (some ⟨w1.heap.size + 1, 0, none⟩) 0 n) 0 []) (hg : (w1.alloc (.cells #[.int .u64 0, .int .u64 0, .int .u64 0] 33)).grownBy w3 none) :
    ∃ C : Cfg, SideF C w0.heap.size w1.heap.size ∧ C.self = self ∧ C.seq = 0 ∧ C.a 0 = T ∧ C.a 1 = P ∧ K1 w0 w3 C w1.heap.size [] (.slice (some ⟨w1.heap.size + 1, 0, none⟩) 0 n) := by
  have hB : Below w.heap.size w w1 := by
    obtain ⟨_, _, _, _, hB, _⟩ := h
    exact hB
  have lT : T < w.heap.size := (Array.getElem?_eq_some_iff.1 hT).1
  have hk3 : Keeps (fun _ => False) w1 w3 := ((Keeps.refl _ w1).alloc _).grown hg (fun k hk => by cases hk)
  have h3 : w1.heap.size + 1 ≤ w3.heap.size := by have := hg.size; simpa using this
  obtain ⟨a, mem, clo, O, S, e1, hlo, hlt, hkw⟩ := new_ps h hT hk3 (w1.heap.size + 1) (by omega) h3
  refine ⟨cfg T a (w1.heap.size + 1) self 0 false false false false mem clo, ⟨O, ?_, ?_, ?_, ?_, ?_⟩, rfl, rfl, rfl, e1, ⟨?_, ?_, ho, ?_⟩⟩
  · have := hk.size; have := hB.size; show _ ≤ w1.heap.size + 1; omega
  · intro i hi
    by_cases h0 : i = 0
    · subst h0; exact hT0
    · have : (cfg T a (w1.heap.size + 1) self 0 false false false false mem clo).a i = a i := by show (if i = 0 then T else a i) = a i; rw [if_neg h0]
      rw [this]
      have := hlo i (by omega) hi
      have := hk.size
      omega
  · have := hk.size; have := hB.size; omega
  · show _ < w1.heap.size + 1; omega
  · intro i hi; have := hlt i hi; omega
  · have e : stF [] 0 = st0 := by unfold stF; rw [plf_nil]; rfl
    rw [e]
    exact S
  · rw [hg.block w1.heap.size (by simp) (by simp)]
    exact heap_alloc_new w1 _
  · exact (hk.mono (fun _ _ h => h.elim)).then hkw (fun k hk0 h => by have := hk.size; omega)

set_option maxRecDepth 100000 in
set_option maxHeartbeats 3200000 in
theorem fol_walk (self : Int) (ao : Option Addr) (leno capo : Nat) (os : Nat → Int) (a : Option Addr) (len cap : Nat) (xs ns : Nat → Int) (w : World) (h0 : 0 ≤ self) (h1 : self ≤ 255) (hor : Bytes w ao leno os) (hst : Steps w a len xs ns) :
    Calls Ybaf.prog 4 #[.int .u8 self, .slice ao leno capo, .slice a len cap] w fun e w' => e = .returned (.bool true) ∧ Below w.heap.size w w' := by
  obtain ⟨i38, hi38, z38a, z38b, z38c⟩ := info_parts Ybaf.info38
  have HST := hide hst
  have HOR := hide hor
  clear hst hor
  by_cases hl : len ≤ 1024
  · by_cases hlo : leno ≤ 1024
    · have i1 : (len : Int) ≤ 1024 := by omega
      have i2 : (leno : Int) ≤ 1024 := by omega
      go_enter Ybaf.func4, Ybaf.ntmps4
      rw [← graft_drop 7 (Code.seq _ _)]
      generalize hR : dropSeq 7 (Code.seq _ _) = R
      have HR := hide hR
      clear hR
      simp only [graft]
      go_wp2_with (go_at_call 5; refine (new_any _ _ _ _ _ _ _ _).mono ?_; rintro e w1 ⟨P, rfl, hnew⟩; have HN := hide hnew; clear hnew; obtain ⟨w3, hmk, hown3, hgrow3⟩ := run_make_own (P := Ybaf.prog) (w1.alloc (.cells #[.int .u64 0, .int .u64 0, .int .u64 0] 33)) (w1.heap.size + 1) 34 38 i38 _ 2 Ybaf.underlying34 hi38 z38a z38b .i64 .i64 leno (by rw [z38c]; omega) (by unfold maxLen; omega) (by simp); rw [World.size_alloc] at hmk hown3; have HO3 := hide hown3; have HG3 := hide hgrow3; clear hown3 hgrow3)
      obtain ⟨C, F, eself, eseq, ha0, ha1, hK⟩ := fol_start (w0 := w) HN.out (T := w.heap.size) (heap_alloc_new w _) ((Keeps.refl _ w).alloc _) (Nat.le_refl _) HO3.out HG3.out
      have hself : C.self ≠ C.seq := by rw [eself, eseq]; omega
      rw [← HR.out]
      exact fol_order_at w w3 C w1.heap.size F _ ao leno capo os a len cap xs ns hlo hl HOR.out HST.out hself hK _ _ ha0 ha1
    · have i1 : (len : Int) ≤ 1024 := by omega
      have i2 : (1024 : Int) < (leno : Int) := by omega
      go_enter Ybaf.func4, Ybaf.ntmps4
      go_wp2
      go_ret
      exact ⟨rfl, Below.refl _ w⟩
  · have i2 : (1024 : Int) < (len : Int) := by omega
    go_enter Ybaf.func4, Ybaf.ntmps4
    go_wp2
    go_ret
    exact ⟨rfl, Below.refl _ w⟩
end Go.Proofs.YbulkanjaFmt.Tot
