/-
  THE MEMBER AS IT IS MADE, in the walks' own words.
-/
import Derived.Test.YbulkanjaFmtMod
namespace Go.Proofs.YbulkanjaFmt.Tot
open Go.RowKit Go.Maps Go.Proofs.YbulkanjaFmt.MapsF

/-- Where the new member lies. -/
def cfg (T : Nat) (a : Nat → Nat) (base : Nat) (self seq : Int) (o0 o1 o2 pend : Bool) (mem clo : Value) : Cfg :=
  { a := fun i => if i = 0 then T else a i, base := base, self := self, seq := seq, out := fun t => if t = 0 then o0 else if t = 1 then o1 else o2, pend := pend, mem := mem, clo := clo }

/-- The member as it is made. -/
def st0 : St := { bv := .slice none 0 0, dw := .slice none 0 0, pl := fun _ => 0, dn := fun _ => 0, dv := 0, gv := 0, plm := fun _ => none, hv := fun _ _ => none, bx := [], dx := [], nb := 0, nd := 0, nM := 0, nH := 0 }
def dlv0 : Dlv := { dv := 0, hv := fun _ _ => none, D := [] }

theorem new_ps {self seq : Int} {T : Nat} {o0 o1 o2 pend : Bool} {w w1 w2 : World} {P : Nat} (h : NewAt self seq T o0 o1 o2 pend w P w1) (hT : w.heap[T]? = some (.cells #[.slice none 0 0, .slice none 0 0] 28)) (hk : Keeps (fun _ => False) w1 w2) (base : Nat) (hb1 : w1.heap.size ≤ base) (hb2 : base ≤ w2.heap.size) :
    ∃ a mem clo, (cfg T a base self seq o0 o1 o2 pend mem clo).Ok ∧ PS w2 (cfg T a base self seq o0 o1 o2 pend mem clo) st0 ∧ a 1 = P ∧ (∀ i, 0 < i → i < 10 → w.heap.size ≤ a i) ∧ (∀ i, i < 10 → (cfg T a base self seq o0 o1 o2 pend mem clo).a i < w1.heap.size) ∧ Keeps (fun k => w.heap.size ≤ k) w w2 := by
  obtain ⟨a, mem, clo, e1, hB, hlo, hne, h1, h2, h3, h4, h5, h6⟩ := h
  have lT : T < w.heap.size := (Array.getElem?_eq_some_iff.1 hT).1
  have hlt : ∀ i, i < 10 → (cfg T a base self seq o0 o1 o2 pend mem clo).a i < w1.heap.size := by
    intro i hi
    match i, hi with
    | 0, _ => exact Nat.lt_of_lt_of_le lT hB.size
    | 1, _ => exact (Array.getElem?_eq_some_iff.1 h1).1
    | 2, _ => exact (Array.getElem?_eq_some_iff.1 h2).1
    | 3, _ => exact (Array.getElem?_eq_some_iff.1 h3).1
    | 4, _ => exact (Array.getElem?_eq_some_iff.1 h4).1
    | 5, _ => exact (Array.getElem?_eq_some_iff.1 h5).1
    | 6, _ => exact (Array.getElem?_eq_some_iff.1 (h6 6 (by decide) (by decide))).1
    | 7, _ => exact (Array.getElem?_eq_some_iff.1 (h6 7 (by decide) (by decide))).1
    | 8, _ => exact (Array.getElem?_eq_some_iff.1 (h6 8 (by decide) (by decide))).1
    | 9, _ => exact (Array.getElem?_eq_some_iff.1 (h6 9 (by decide) (by decide))).1
  have O : (cfg T a base self seq o0 o1 o2 pend mem clo).Ok := by
    refine ⟨fun i j hi hj hij => ?_, fun i hi => Nat.lt_of_lt_of_le (hlt i hi) hb1⟩
    show (if i = 0 then T else a i) ≠ (if j = 0 then T else a j)
    by_cases hi0 : i = 0
    · by_cases hj0 : j = 0
      · omega
      · rw [if_pos hi0, if_neg hj0]
        have := hlo j (by omega) hj
        omega
    · by_cases hj0 : j = 0
      · rw [if_neg hi0, if_pos hj0]
        have := hlo i (by omega) hi
        omega
      · rw [if_neg hi0, if_neg hj0]
        exact hne i j (by omega) (by omega) hi hj hij
  have kk : ∀ i, i < 10 → w2.heap[(cfg T a base self seq o0 o1 o2 pend mem clo).a i]? = w1.heap[(cfg T a base self seq o0 o1 o2 pend mem clo).a i]? := fun i hi => hk.block _ (hlt i hi) (fun h => h)
  refine ⟨a, mem, clo, O, ⟨(kk 0 (by decide)).trans ((hB.block T lT).trans hT), (kk 1 (by decide)).trans h1, (kk 2 (by decide)).trans h2, (kk 3 (by decide)).trans h3, (kk 4 (by decide)).trans h4, (kk 5 (by decide)).trans h5, ⟨0, fun _ => none, mapIs_made_at Ybaf.prog 32 ((kk 6 (by decide)).trans (h6 6 (by decide) (by decide))), fun _ => rfl⟩, fun s hs => ⟨0, fun _ => none, mapIs_made_at Ybaf.prog 32 ((kk (7 + s) (by omega)).trans ?_), fun _ => rfl⟩, World.ownsRow_nil _ _ _ _, World.ownsRow_nil _ _ _ _, fun s m bb i h => (by cases h), hb2⟩, e1, hlo, hlt, ?_⟩
  · have : (cfg T a base self seq o0 o1 o2 pend mem clo).a (7 + s) = a (7 + s) := by
      show (if 7 + s = 0 then T else a (7 + s)) = _
      rw [if_neg (by omega)]
    rw [this]
    exact h6 (7 + s) (by omega) (by omega)
  · exact ⟨hk.os.trans hB.os, hk.tape.trans hB.tape, hk.output.trans hB.output, Nat.le_trans hB.size hk.size, fun k hk' _ => (hk.block k (Nat.lt_of_lt_of_le hk' hB.size) (fun h => h)).trans (hB.block k hk')⟩

theorem plf_nil : plf [] = fun _ => none := by
  funext k
  cases k with
  | zero => rfl
  | succ k => simp [plf]
theorem st0_eq : dlvd (placed st0 [] (.slice none 0 0)) [] dlv0 (.slice none 0 0) = st0 := by
  unfold dlvd placed st0 dlv0
  rw [plf_nil]
  rfl
theorem mod_nil : mod (fun _ _ => none) = fun _ _ => none := rfl
theorem mapM_made {w : World} {b : Nat} (h : w.heap[b]? = some (.map #[] 0)) : MapM w b 0 (mod dlv0.hv) := ⟨0, fun _ => none, mapIs_made_at Ybaf.prog 38 h, fun _ _ _ _ => rfl⟩
end Go.Proofs.YbulkanjaFmt.Tot
