/-
  THE MEMBER AND THE LAW's OWN MODEL, side by side.
-/
import Derived.Test.YbulkanjaFmtSeqPlain
import Derived.Test.YbulkanjaFmtNew
namespace Go.Proofs.YbulkanjaFmt.Tot
open Go.RowKit Go.Maps Go.Proofs.YbulkanjaFmt.MapsF

/-! ### a great body, walked in parts -/
def dropSeq : Nat → Code → Code
  | 0, c => c
  | n + 1, .seq _ y => dropSeq n y
  | _, c => c
/-- The first n statements of c, and r in the place of the rest. -/
def graft : Nat → Code → Code → Code
  | 0, _, r => r
  | n + 1, .seq x y, r => .seq x (graft n y r)
  | _ + 1, c, _ => c
theorem graft_drop : ∀ (n : Nat) (c : Code), graft n c (dropSeq n c) = c
  | 0, _ => rfl
  | n + 1, c => by
    cases c with
    | seq x y => simp only [graft, dropSeq, graft_drop n y]
    | _ => rfl

theorem Ybaf.mk31 (w : World) : (Instr.makeMap 31 none).run Ybaf.prog w = .ok (.map (some w.heap.size)) (w.alloc (.map #[] 0)) := by kernel_rfl
theorem Ybaf.info38 : (Ybaf.prog.info? 38).map (fun i => (i.zero, i.size, i.bytes)) = some (some (.agg #[.int .i64 0, .int .u64 0]), 2, 16) := by kernel_rfl

/-- The model: its map, its array, its two rows. -/
structure Md where
  hm : Nat → Nat → Option Value
  nh : Nat
  pf : Nat → Nat
  vB : Value
  nB : Nat
  xB : List Value
  vD : Value
  nD : Nat
  xD : List Value

/-- Where the law's own blocks lie: B: below it all is old; hb: the map; pb: the array; Q: what never turns. -/
structure Side (C : Cfg) (B hb pb : Nat) (Q : Nat → Obj → Prop) : Prop where
  O : C.Ok
  bB : B ≤ C.base
  aB : ∀ i, i < 10 → B ≤ C.a i
  hB : B ≤ hb
  pB : B ≤ pb
  hl : hb < C.base
  pl : pb < C.base
  hp : hb ≠ pb
  ha : ∀ i, i < 10 → C.a i ≠ hb
  pa : ∀ i, i < 10 → C.a i ≠ pb
  q : ∀ k o, Q k o → k < C.base ∧ k ≠ hb ∧ k ≠ pb ∧ ∀ i, i < 10 → k ≠ C.a i

structure J (w0 w : World) (C : Cfg) (x : St) (hb pb : Nat) (Q : Nat → Obj → Prop) (y : Md) : Prop where
  S : PS w C x
  mh : MapM w hb y.nh y.hm
  pl : w.heap[pb]? = some (.cells #[.int .u64 (y.pf 0 : Int), .int .u64 (y.pf 1 : Int), .int .u64 (y.pf 2 : Int)] 33)
  oB : w.ownsRow C.base 38 2 y.vB y.nB y.xB
  oD : w.ownsRow C.base 46 2 y.vD y.nD y.xD
  ne : ∀ k, y.vD.ownBlock = some k → x.dw.ownBlock ≠ some k
  q : ∀ k o, Q k o → w.heap[k]? = some o
  kw : Keeps (fun k => w0.heap.size ≤ k) w0 w

section
variable {w0 w w' : World} {C : Cfg} {x : St} {hb pb : Nat} {Q : Nat → Obj → Prop} {y : Md}

/-- The rows of the model and of the member are apart. -/
theorem J.apart (h : J w0 w C x hb pb Q y) : (∀ k, y.vB.ownBlock = some k → x.bv.ownBlock ≠ some k ∧ x.dw.ownBlock ≠ some k ∧ y.vD.ownBlock ≠ some k) ∧ (∀ k, y.vD.ownBlock = some k → x.bv.ownBlock ≠ some k) := by
  refine ⟨fun k hk => ?_, fun k hk => ?_⟩
  · obtain ⟨_, ⟨e, _⟩ | ⟨g, cap, cur, e, _, hg, _⟩⟩ := h.oB
    · rw [e] at hk; cases hk
    · rw [e] at hk
      cases hk
      exact ⟨own_ne h.S.ob hg (by decide), own_ne h.S.od hg (by decide), own_ne h.oD hg (by decide)⟩
  · obtain ⟨_, ⟨e, _⟩ | ⟨g, cap, cur, e, _, hg, _⟩⟩ := h.oD
    · rw [e] at hk; cases hk
    · rw [e] at hk
      cases hk
      exact own_ne h.S.ob hg (by decide)

/-- What the model's own steps may turn. -/
def Theirs (hb pb : Nat) (vB vD : Value) (k : Nat) : Prop := k = hb ∨ k = pb ∨ vB.ownBlock = some k ∨ vD.ownBlock = some k

/-- The model's steps leave the member alone. -/
theorem J.member (h : J w0 w C x hb pb Q y) (D : Side C w0.heap.size hb pb Q) (hk : Keeps (Theirs hb pb y.vB y.vD) w w') : PS w' C x := by
  have O := D.O
  have hB := D.hl
  have pB := D.pl
  have h38 : ∀ k cs t, w.heap[k]? = some (.cells cs t) → t ≠ 38 → y.vB.ownBlock ≠ some k := fun k cs t hc ht => own_ne h.oB hc ht
  have h46 : ∀ k cs t, w.heap[k]? = some (.cells cs t) → t ≠ 46 → y.vD.ownBlock ≠ some k := fun k cs t hc ht => own_ne h.oD hc ht
  refine h.S.same O hk (fun i hi => ?_) (fun k hb' => ?_) (fun k hd' => ?_) (fun k hkb cs hc => ?_)
  · have := O.lt i hi
    rintro (e | e | e | e)
    · exact D.ha i hi e
    · exact D.pa i hi e
    · have := (h.oB.lt _ e).1; omega
    · have := (h.oD.lt _ e).1; omega
  · have := (h.S.ob.lt k hb').1
    rintro (e | e | e | e)
    · omega
    · omega
    · exact (h.apart.1 k e).1 hb'
    · exact h.apart.2 k e hb'
  · have := (h.S.od.lt k hd').1
    rintro (e | e | e | e)
    · omega
    · omega
    · exact (h.apart.1 k e).2.1 hd'
    · exact h.ne k e hd'
  · rintro (e | e | e | e)
    · omega
    · omega
    · exact h38 k cs 5 hc (by decide) e
    · exact h46 k cs 5 hc (by decide) e

theorem J.old (h : J w0 w C x hb pb Q y) (D : Side C w0.heap.size hb pb Q) (hk : Keeps (Theirs hb pb y.vB y.vD) w w') : Keeps (fun k => w0.heap.size ≤ k) w0 w' ∧ ∀ k o, Q k o → w'.heap[k]? = some o := by
  refine ⟨h.kw.then hk (fun k hk0 ht => ?_), fun k o hq => ?_⟩
  · rcases ht with e | e | e | e
    · have := D.hB; omega
    · have := D.pB; omega
    · have := (h.oB.lt _ e).1; have := D.bB; omega
    · have := (h.oD.lt _ e).1; have := D.bB; omega
  · obtain ⟨q1, q2, q3, _⟩ := D.q k o hq
    rw [hk.block k (Array.getElem?_eq_some_iff.1 (h.q k o hq)).1 ?_]
    · exact h.q k o hq
    · rintro (e | e | e | e)
      · exact q2 e
      · exact q3 e
      · have := (h.oB.lt _ e).1; omega
      · have := (h.oD.lt _ e).1; omega

/-- Nothing turned. -/
theorem J.keep (h : J w0 w C x hb pb Q y) (D : Side C w0.heap.size hb pb Q) (hk : Keeps (fun _ => False) w w') : J w0 w' C x hb pb Q y := by
  have hk' : Keeps (Theirs hb pb y.vB y.vD) w w' := hk.mono (fun _ _ h => h.elim)
  obtain ⟨o1, o2⟩ := h.old D hk'
  exact ⟨h.member D hk', h.mh.of_block (hk.block _ h.mh.lt (fun h => h)), (hk.block _ (Array.getElem?_eq_some_iff.1 h.pl).1 (fun h => h)).trans h.pl, own_of_block h.oB (fun k hb => hk.block k (h.oB.lt k hb).2 (fun h => h)), own_of_block h.oD (fun k hb => hk.block k (h.oD.lt k hb).2 (fun h => h)), h.ne, o2, o1⟩
theorem J.alloc (h : J w0 w C x hb pb Q y) (D : Side C w0.heap.size hb pb Q) (o : Obj) : J w0 (w.alloc o) C x hb pb Q y := h.keep D ((Keeps.refl _ w).alloc o)
theorem J.drewN (h : J w0 w C x hb pb Q y) (D : Side C w0.heap.size hb pb Q) (n : Nat) : J w0 (w.drewN n) C x hb pb Q y := h.keep D ((Keeps.refl _ w).drewN n)

/-- 'placed[s] = v' -/
theorem J.setP (h : J w0 w C x hb pb Q y) (D : Side C w0.heap.size hb pb Q) (s v : Nat) (hs : s < 3) : J w0 (w.setCell ⟨pb, s, none⟩ (.int .u64 (v : Int))) C x hb pb Q { y with pf := updF y.pf s v } := by
  have hk := keeps_cell w pb s (.int .u64 (v : Int))
  have hk' : Keeps (Theirs hb pb y.vB y.vD) w _ := hk.mono (fun _ _ e => .inr (.inl e))
  obtain ⟨o1, o2⟩ := h.old D hk'
  have pB := D.pl
  exact ⟨h.member D hk', h.mh.of_block (hk.block _ h.mh.lt D.hp), (heap_setCell_same w _ s _ _ _ h.pl).trans (by rw [set3 _ _ _ hs]), own_of_block h.oB (fun k hb => hk.block k (h.oB.lt k hb).2 (by have := (h.oB.lt k hb).1; omega)), own_of_block h.oD (fun k hb => hk.block k (h.oD.lt k hb).2 (by have := (h.oD.lt k hb).1; omega)), h.ne, o2, o1⟩

/-- 'held[id] = i', 'delete(held, id)' -/
theorem J.turn (h : J w0 w C x hb pb Q y) (D : Side C w0.heap.size hb pb Q) (ht : w.mapTurned w' hb) {n : Nat} {f : Nat → Nat → Option Value} (hm : MapM w' hb n f) : J w0 w' C x hb pb Q { y with hm := f, nh := n } := by
  have hk := keeps_turned ht
  have hk' : Keeps (Theirs hb pb y.vB y.vD) w w' := hk.mono (fun _ _ e => .inl e)
  obtain ⟨o1, o2⟩ := h.old D hk'
  have hB := D.hl
  exact ⟨h.member D hk', hm, (hk.block _ (Array.getElem?_eq_some_iff.1 h.pl).1 (Ne.symm D.hp)).trans h.pl, own_of_block h.oB (fun k hb => hk.block k (h.oB.lt k hb).2 (by have := (h.oB.lt k hb).1; omega)), own_of_block h.oD (fun k hb => hk.block k (h.oD.lt k hb).2 (by have := (h.oD.lt k hb).1; omega)), h.ne, o2, o1⟩

theorem keeps_grown {row : Option Nat} (hg : w.grownBy w' row) : Keeps (fun k => row = some k) w w' := (Keeps.refl _ w).grown hg (fun _ e => e)

/-- 'expB = append(expB, ..)' -/
theorem J.growB (h : J w0 w C x hb pb Q y) (D : Side C w0.heap.size hb pb Q) (hg : w.grownBy w' y.vB.ownBlock) {v : Value} {n : Nat} {xs : List Value} (ho : w'.ownsRow C.base 38 2 v n xs) : J w0 w' C x hb pb Q { y with vB := v, nB := n, xB := xs } := by
  have hk := keeps_grown hg
  have hk' : Keeps (Theirs hb pb y.vB y.vD) w w' := hk.mono (fun _ _ e => .inr (.inr (.inl e)))
  obtain ⟨o1, o2⟩ := h.old D hk'
  have hB := D.hl
  have pB := D.pl
  exact ⟨h.member D hk', h.mh.of_block (hk.block _ h.mh.lt (fun e => by have := (h.oB.lt _ e).1; omega)), (hk.block _ (Array.getElem?_eq_some_iff.1 h.pl).1 (fun e => by have := (h.oB.lt _ e).1; omega)).trans h.pl, ho, own_of_block h.oD (fun k hd => hk.block k (h.oD.lt k hd).2 (fun e => (h.apart.1 k e).2.2 hd)), h.ne, o2, o1⟩

/-- 'expD = append(expD, ..)' -/
theorem J.growD (h : J w0 w C x hb pb Q y) (D : Side C w0.heap.size hb pb Q) (hg : w.grownBy w' y.vD.ownBlock) {v : Value} {n : Nat} {xs : List Value} (ho : w'.ownsRow C.base 46 2 v n xs) (hm : Moved w y.vD v) : J w0 w' C x hb pb Q { y with vD := v, nD := n, xD := xs } := by
  have hk := keeps_grown hg
  have hk' : Keeps (Theirs hb pb y.vB y.vD) w w' := hk.mono (fun _ _ e => .inr (.inr (.inr e)))
  obtain ⟨o1, o2⟩ := h.old D hk'
  have hB := D.hl
  have pB := D.pl
  refine ⟨h.member D hk', h.mh.of_block (hk.block _ h.mh.lt (fun e => by have := (h.oD.lt _ e).1; omega)), (hk.block _ (Array.getElem?_eq_some_iff.1 h.pl).1 (fun e => by have := (h.oD.lt _ e).1; omega)).trans h.pl, own_of_block h.oB (fun k hd => hk.block k (h.oB.lt k hd).2 (fun e => (h.apart.1 k hd).2.2 e)), ho, fun k hv hd => ?_, o2, o1⟩
  rcases hm with hm | hm
  · exact h.ne k (hm ▸ hv) hd
  · have := hm k hv
    have := (h.S.od.lt k hd).2
    omega

/-- The member's call. -/
theorem J.called (h : J w0 w C x hb pb Q y) (D : Side C w0.heap.size hb pb Q) {x' : St} (S' : PS w' C x') (hk : Keeps (Mine C x.bv x.dw) w w') (hm : Moved w x.dw x'.dw) : J w0 w' C x' hb pb Q y := by
  have hB := D.hl
  have pB := D.pl
  have nm : ∀ k, k < C.base → (∀ i, i < 10 → C.a i ≠ k) → ¬ Mine C x.bv x.dw k := by
    rintro k hk hn (⟨i, hi, e⟩ | e | e)
    · exact hn i hi e.symm
    · have := (h.S.ob.lt k e.symm).1; omega
    · have := (h.S.od.lt k e.symm).1; omega
  refine ⟨S', h.mh.of_block (hk.block _ h.mh.lt (nm _ hB D.ha)), (hk.block _ (Array.getElem?_eq_some_iff.1 h.pl).1 (nm _ pB D.pa)).trans h.pl, own_of_block h.oB (fun k hd => hk.block k (h.oB.lt k hd).2 ?_), own_of_block h.oD (fun k hd => hk.block k (h.oD.lt k hd).2 ?_), fun k hv hd => ?_, fun k o hq => ?_, h.kw.then hk (fun k hk0 ht => ?_)⟩
  · have hlo := (h.oB.lt k hd).1
    rintro (⟨i, hi, e⟩ | e | e)
    · have := D.O.lt i hi; omega
    · exact (h.apart.1 k hd).1 e.symm
    · exact (h.apart.1 k hd).2.1 e.symm
  · have hlo := (h.oD.lt k hd).1
    rintro (⟨i, hi, e⟩ | e | e)
    · have := D.O.lt i hi; omega
    · exact h.apart.2 k hd e.symm
    · exact h.ne k hd e.symm
  · rcases hm with hm | hm
    · exact h.ne k hv (hm ▸ hd)
    · have := hm k hd
      have := (h.oD.lt k hv).2
      omega
  · obtain ⟨q1, _, _, q4⟩ := D.q k o hq
    rw [hk.block k (Array.getElem?_eq_some_iff.1 (h.q k o hq)).1 (nm k q1 (fun i hi => (q4 i hi).symm))]
    exact h.q k o hq
  · rcases ht with ⟨i, hi, e⟩ | e | e
    · have := D.aB i hi; omega
    · have := (h.S.ob.lt k e.symm).1; have := D.bB; omega
    · have := (h.S.od.lt k e.symm).1; have := D.bB; omega
end
end Go.Proofs.YbulkanjaFmt.Tot
