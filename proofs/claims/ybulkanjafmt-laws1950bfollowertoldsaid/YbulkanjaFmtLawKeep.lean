/-
  keep, as LawS1950BSequencer calls it.
-/
import Derived.Test.YbulkanjaFmtInner
namespace Go.Proofs.YbulkanjaFmt.Tot
open Go.RowKit Go.Maps Go.Proofs.YbulkanjaFmt.MapsF

/-- What holds between the steps. -/
structure Good (k : Nat) (x : St) (L : List Nat) (p : Dlv) : Prop where
  dv : p.dv = L.length
  dl : p.D.length = L.length
  l3 : ∀ s ∈ L, s < 3
  c5 : ∀ t, L.count t ≤ 5
  hv : ∀ t m, 5 < m → p.hv t m = none
  nh : x.nH = k

theorem Good.len {k : Nat} {x : St} {L : List Nat} {p : Dlv} (h : Good k x L p) : L.length ≤ 15 := by
  have := len_count L h.l3
  have := h.c5 0
  have := h.c5 1
  have := h.c5 2
  omega

theorem put_hv (p : Dlv) (s m bb i t q : Nat) (hv : ∀ t m, 5 < m → p.hv t m = none) (hm : m ≤ 5) (hq : 5 < q) : (p.put s m bb i).hv t q = none := by
  show updF p.hv s (updF (p.hv s) m (some (bb, i))) t q = none
  unfold updF
  split
  · dsimp only
    rw [if_neg (by omega)]
    exact hv _ q hq
  · exact hv t q hq

theorem Good.next {k : Nat} {x : St} {L : List Nat} {p : Dlv} (h : Good k x L p) (s m bb kk : Nat) (hs : s < 3) (hm : m ≤ 5) (hall : ∀ j, j < kk → ((p.put s m bb k).hv s (L.count s + 1 + j)).isSome = true) :
    L.count s + kk ≤ 5 ∧ Good (k + 1) x.more (L ++ List.replicate kk s) (sq s (L.count s) (p.put s m bb k) kk) := by
  have h5 : L.count s + kk ≤ 5 := by
    rcases Nat.eq_zero_or_pos kk with h0 | h0
    · have := h.c5 s; omega
    · have h1 := hall (kk - 1) (by omega)
      rcases Nat.lt_or_ge 5 (L.count s + kk) with h2 | h2
      · rw [put_hv p s m bb k s _ h.hv hm (by omega)] at h1
        cases h1
      · exact h2
  obtain ⟨d1, d2⟩ := sq_dv s (L.count s) (p.put s m bb k) kk hall kk (Nat.le_refl _)
  refine ⟨h5, ⟨?_, ?_, ?_, ?_, ?_, ?_⟩⟩
  · rw [d1]
    show p.dv + kk = _
    rw [h.dv]
    simp
  · rw [d2]
    show p.D.length + kk = _
    rw [h.dl]
    simp
  · intro t ht
    rcases List.mem_append.1 ht with h1 | h1
    · exact h.l3 t h1
    · rw [(List.mem_replicate.1 h1).2]; exact hs
  · intro t
    rw [List.count_append, List.count_replicate]
    split
    · rename_i e
      have : s = t := by simpa using e
      subst this
      exact h5
    · exact h.c5 t
  · intro t q hq
    rw [sq_hv]
    split
    · rfl
    · exact put_hv p s m bb k t q h.hv hm hq
  · show x.nH + 1 = _
    rw [h.nh]

/-- keep, whichever way. -/
theorem keep_law (C : Cfg) (O : C.Ok) (x : St) (L : List Nat) (p : Dlv) (bv dw : Value) (s m bb k : Nat) (w : World) (hs : s < 3) (hm : m ≤ 5) (hk : k ≤ 1024) (G : Good k x L p)
    (S0 : PS w C (dlvd (placed x L bv) L p dw)) (hb : w.heap[bb]? = some (.cells #[.int .u8 ((k % 256 : Nat) : Int), .int .u8 ((k / 256 : Nat) : Int)] 5)) (hbb : C.base ≤ bb) (c1 : C.self = C.seq) :
    Calls Ybaf.prog 6 #[.pointer (some ⟨C.a 1, 0, none⟩), .agg #[.int .i64 (s : Int), .int .u64 (m : Int)], .slice (some ⟨bb, 0, none⟩) 2 2] w fun e w' => e = .returned .nilIface ∧ ∃ kk bv' dw',
      PS w' C (dlvd (placed x.more (L ++ List.replicate kk s) bv') (L ++ List.replicate kk s) (sq s (L.count s) (p.put s m bb k) kk) dw') ∧ Keeps (Mine C bv dw) w w' ∧ Moved w dw dw' ∧
      (∀ j, j < kk → ((p.put s m bb k).hv s (L.count s + 1 + j)).isSome = true) ∧ ((C.pend || C.out s) = false → (p.put s m bb k).hv s (L.count s + 1 + kk) = none) ∧ ((C.pend || C.out s) = true → kk = 0) := by
  have hl := G.len
  have hdl := G.dl
  have hnh := G.nh
  cases hc : (C.pend || C.out s) with
  | false =>
    have hc' : C.pend = false ∧ C.out s = false := by simpa using hc
    refine (keep_seq C O x L p bv dw s m bb k w hs (by omega) G.l3 (by omega) G.dv (by omega) (by omega) (fun q hq => G.hv s q (by omega)) S0 hb hbb (by omega) c1 hc'.1 hc'.2).mono ?_
    rintro e w' ⟨rfl, kk, bv', dw', _, S', K', _, M', hall, hno⟩
    refine ⟨rfl, kk, bv', dw', ?_, K', M', hall, fun _ => hno, fun h => by cases h⟩
    rw [sq_run L s kk (p.put s m bb k) G.dv hall] at S'
    exact S'
  | true =>
    have hc' : C.self ≠ C.seq ∨ C.pend = true ∨ C.out s = true := .inr (by simpa using hc)
    refine (keep_other C O (placed x L bv) L p dw s m bb k w hs (by omega) rfl G.l3 (by omega) (by rw [G.dv]; exact Nat.le_refl _) (by omega) (by show x.nH ≤ _; omega) S0 hb hbb (by omega) hc').mono ?_
    rintro e w' ⟨rfl, dw', S', K', M'⟩
    rw [G.dv, Nat.sub_self] at S'
    refine ⟨rfl, 0, bv, dw', ?_, K', M', fun j hj => by omega, fun h => (by cases h), fun _ => rfl⟩
    show PS w' C (dlvd (placed x.more (L ++ []) bv) (L ++ []) (p.put s m bb k) dw')
    rw [List.append_nil]
    exact S'
end Go.Proofs.YbulkanjaFmt.Tot
