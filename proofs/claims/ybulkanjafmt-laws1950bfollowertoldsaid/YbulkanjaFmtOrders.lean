/-
  A REGION THAT DRAWS ITS ORDER AND MAKES MEMORY: A LAW FOR EVERY ORDER AT ONCE. Each operation of the region writes one slot of its own and turns nothing old ('Below w.heap.size w w''); what it leaves in its slot is told by a predicate 'Post i v w' that stays true while nothing old turns.
  Then, whatever the order: behind the region each slot holds something of which its 'Post' holds; two makers' blocks are never one.
-/
import Derived.Orders
import Derived.Below
import Derived.WalkKit
namespace Go.Proofs.YbulkanjaFmt.Orders
open Go.RowKit

/-- The block that a value leads to. -/
def blk : Value → Option Nat
  | .slice (some a) _ _ => some a.block
  | .map b => b
  | .pointer (some a) => some a.block
  | _ => none

/-- What one operation is to do at state a, world w: a value and nothing old turned; or a call of which that holds. -/
def StepOK (P : Program) (o : Oper) (maker : Bool) (R : Value → World → Prop) (a : Act) (w : World) : Prop :=
  (∃ v w', (execOp a.eval o).run P w = .ok (.value v) w' ∧ Below w.heap.size w w' ∧ R v w' ∧ (maker = true → ∀ b, blk v = some b → w.heap.size ≤ b ∧ b < w'.heap.size)) ∨
  (∃ f args, (execOp a.eval o).run P w = .ok (.enter f args) w ∧ Calls P f args w fun e w' => ∃ v, e = .returned v ∧ Below w.heap.size w w' ∧ R v w' ∧ (maker = true → ∀ b, blk v = some b → w.heap.size ≤ b ∧ b < w'.heap.size))

/-- The steps of all operations, one limb an operation. -/
def AllSteps (P : Program) (a0 : Act) (w0 : World) (dst : Nat → Tmp) (n : Nat) (maker : Nat → Bool) (Post : Nat → Value → World → Prop) : List Oper → Nat → Prop
  | [], _ => True
  | o :: r, i => (∀ (a : Act) (w : World) (v : Nat → Value), Below w0.heap.size w0 w → (∀ s, (∀ j, j < n → dst j ≠ s) → a.tmps[s]?.getD undef = a0.tmps[s]?.getD undef) →
      (∀ e ∈ o.after, Region.binds .any e = true → a.tmps[dst e.on]?.getD undef = v e.on ∧ Post e.on (v e.on) w) → StepOK P o (maker i) (Post i) a w) ∧ AllSteps P a0 w0 dst n maker Post r (i + 1)

/-- The closed facts of the region, as one Bool: each operation writes its own slot, has no guard, and waits for earlier ones alone. -/
def fits (dst : Nat → Tmp) (ops : List Oper) : Bool :=
  (List.range ops.length).all fun i => match ops[i]? with
    | some o => o.dst == some (dst i) && o.guard == none && o.after.all (fun e => !Region.binds .any e || decide (e.on < i)) && (List.range ops.length).all fun j => i == j || !(dst i == dst j)
    | none => true

section
variable {P : Program} {ops : Array Oper} {Q : Exit → Act → World → Prop} {dst : Nat → Tmp} {maker : Nat → Bool} {Post : Nat → Value → World → Prop} {a0 : Act} {w0 : World}

theorem steps_at {n : Nat} : ∀ (l : List Oper) (k : Nat), AllSteps P a0 w0 dst n maker Post l k → ∀ i o, l[i]? = some o → ∀ (a : Act) (w : World) (v : Nat → Value), Below w0.heap.size w0 w →
    (∀ s, (∀ j, j < n → dst j ≠ s) → a.tmps[s]?.getD undef = a0.tmps[s]?.getD undef) → (∀ e ∈ o.after, Region.binds .any e = true → a.tmps[dst e.on]?.getD undef = v e.on ∧ Post e.on (v e.on) w) → StepOK P o (maker (k + i)) (Post (k + i)) a w
  | [], _, _, i, o, h => by simp at h
  | x :: r, k, hs, i, o, h => by
    cases i with
    | zero => simp at h; subst h; exact hs.1
    | succ i =>
      have := steps_at r (k + 1) hs.2 i o (by simpa using h)
      rw [show k + (i + 1) = k + 1 + i by omega]
      exact this

/-- The state behind those operations that have come up. -/
def fill (a0 : Act) (dst : Nat → Tmp) (L : List Nat) (listed : Nat → Bool) (v : Nat → Value) : Act :=
  L.foldl (fun a i => if listed i then a.put (some (dst i)) (v i) else a) a0

theorem put_fill (dst : Nat → Tmp) (i : Nat) (x : Value) (listed : Nat → Bool) (v : Nat → Value) : ∀ (L : List Nat) (a : Act), (∀ j ∈ L, dst j ≠ dst i) →
    fill (a.put (some (dst i)) x) dst L listed v = (fill a dst L listed v).put (some (dst i)) x
  | [], _, _ => rfl
  | j :: r, a, h => by
    have hj := h j (by simp)
    unfold fill
    rw [List.foldl_cons, List.foldl_cons]
    by_cases hl : listed j = true
    · simp only [hl, if_true]
      rw [Act.put_comm a x (v j) (fun d hd => by cases hd; intro e; exact hj (Option.some.inj e))]
      exact put_fill dst i x listed v r _ (fun k hk => h k (by simp [hk]))
    · simp only [hl]
      exact put_fill dst i x listed v r _ (fun k hk => h k (by simp [hk]))

theorem fill_same (dst : Nat → Tmp) (listed listed' : Nat → Bool) (v v' : Nat → Value) : ∀ (L : List Nat) (a : Act), (∀ j ∈ L, listed' j = listed j ∧ v' j = v j) → fill a dst L listed' v' = fill a dst L listed v
  | [], _, _ => rfl
  | j :: r, a, h => by
    have hj := h j (by simp)
    unfold fill
    rw [List.foldl_cons, List.foldl_cons, hj.1, hj.2]
    exact fill_same dst listed listed' v v' r _ (fun k hk => h k (by simp [hk]))

/-- One more has come up. -/
theorem fill_step (dst : Nat → Tmp) (i : Nat) (x : Value) (listed : Nat → Bool) (v : Nat → Value) (hi : listed i = false) : ∀ (L : List Nat) (a : Act), L.Nodup → i ∈ L → (∀ j ∈ L, j ≠ i → dst j ≠ dst i) →
    fill a dst L (fun j => if j = i then true else listed j) (fun j => if j = i then x else v j) = (fill a dst L listed v).put (some (dst i)) x
  | [], _, _, h, _ => by simp at h
  | j :: r, a, hnd, h, hd => by
    rw [List.nodup_cons] at hnd
    by_cases hj : j = i
    · subst hj
      have e1 : fill (a.put (some (dst j)) x) dst r (fun k => if k = j then true else listed k) (fun k => if k = j then x else v k) = fill (a.put (some (dst j)) x) dst r listed v :=
        fill_same dst _ _ _ _ r _ (fun k hk => by
          have : k ≠ j := fun e => hnd.1 (e ▸ hk)
          simp [this])
      have e2 := put_fill dst j x listed v r a (fun k hk => hd k (by simp [hk]) (fun e => hnd.1 (e ▸ hk)))
      have l1 : fill a dst (j :: r) (fun k => if k = j then true else listed k) (fun k => if k = j then x else v k) = fill (a.put (some (dst j)) x) dst r (fun k => if k = j then true else listed k) (fun k => if k = j then x else v k) := by
        unfold fill; rw [List.foldl_cons]; simp
      have l2 : fill a dst (j :: r) listed v = fill a dst r listed v := by
        unfold fill; rw [List.foldl_cons]; simp [hi]
      rw [l1, e1, e2, l2]
    · have hm : i ∈ r := by
        rcases List.mem_cons.1 h with e | e
        · exact absurd e.symm hj
        · exact e
      have ih := fun b => fill_step dst i x listed v hi r b hnd.2 hm (fun k hk => hd k (by simp [hk]))
      unfold fill
      rw [List.foldl_cons, List.foldl_cons]
      simp only [hj, if_false]
      by_cases hl : listed j = true
      · simp only [hl, if_true]; exact ih _
      · simp only [hl]; exact ih _

theorem eval_tmp (a : Act) (s : Tmp) : a.eval (.tmp s) = a.tmps[s]?.getD undef := by simp [Act.eval]

theorem eval_put_ne {a : Act} {d s : Tmp} {v : Value} (h : d ≠ s) : (a.put (some d) v).eval (.tmp s) = a.eval (.tmp s) := by
  simp [Act.eval, Act.put, Array.getElem?_setIfInBounds_ne h]

theorem fill_out (dst : Nat → Tmp) (listed : Nat → Bool) (v : Nat → Value) (s : Tmp) : ∀ (L : List Nat) (a : Act), (∀ j ∈ L, dst j ≠ s) → (fill a dst L listed v).eval (.tmp s) = a.eval (.tmp s)
  | [], _, _ => rfl
  | j :: r, a, h => by
    have := fun b => fill_out dst listed v s r b (fun k hk => h k (by simp [hk]))
    unfold fill
    rw [List.foldl_cons]
    by_cases hl : listed j = true
    · simp only [hl, if_true]; exact (this _).trans (eval_put_ne (h j (by simp)))
    · simp only [hl]; exact this _

theorem fill_size (dst : Nat → Tmp) (listed : Nat → Bool) (v : Nat → Value) : ∀ (L : List Nat) (a : Act), (fill a dst L listed v).tmps.size = a.tmps.size
  | [], _ => rfl
  | j :: r, a => by
    have := fun b => fill_size dst listed v r b
    unfold fill
    rw [List.foldl_cons]
    by_cases hl : listed j = true
    · simp only [hl, if_true]; exact (this _).trans (by simp [Act.put])
    · simp only [hl]; exact this _

theorem fill_in (dst : Nat → Tmp) (listed : Nat → Bool) (v : Nat → Value) (i : Nat) (hi : listed i = true) : ∀ (L : List Nat) (a : Act), i ∈ L → (∀ j ∈ L, j ≠ i → dst j ≠ dst i) → dst i < a.tmps.size → L.Nodup → (fill a dst L listed v).eval (.tmp (dst i)) = v i
  | [], _, h, _, _, _ => by simp at h
  | j :: r, a, h, hd, hs, hnd => by
    rw [List.nodup_cons] at hnd
    by_cases hj : j = i
    · subst hj
      have e : fill a dst (j :: r) listed v = fill (a.put (some (dst j)) (v j)) dst r listed v := by unfold fill; rw [List.foldl_cons]; simp [hi]
      rw [e, fill_out dst listed v (dst j) r _ (fun k hk => hd k (by simp [hk]) (fun e => hnd.1 (e ▸ hk)))]
      simp [Act.eval, Act.put, hs]
    · have hm : i ∈ r := by
        rcases List.mem_cons.1 h with e | e
        · exact absurd e.symm hj
        · exact e
      have ih := fun b hb => fill_in dst listed v i hi r b hm (fun k hk => hd k (by simp [hk])) hb hnd.2
      unfold fill
      rw [List.foldl_cons]
      by_cases hl : listed j = true
      · simp only [hl, if_true]; exact ih _ (by simpa [Act.put] using hs)
      · simp only [hl]; exact ih _ hs

theorem fill_all (dst : Nat → Tmp) (listed : Nat → Bool) (v : Nat → Value) : ∀ (L : List Nat) (a : Act), (∀ j ∈ L, listed j = true) → fill a dst L listed v = L.foldl (fun a i => a.put (some (dst i)) (v i)) a
  | [], _, _ => rfl
  | j :: r, a, h => by
    have ih := fun b => fill_all dst listed v r b (fun k hk => h k (by simp [hk]))
    have hj := h j (by simp)
    unfold fill
    rw [List.foldl_cons, List.foldl_cons]
    simp only [hj, if_true]
    exact ih _

theorem below_step {w0 w w' : World} (h : Below w0.heap.size w0 w) (h' : Below w.heap.size w w') : Below w0.heap.size w0 w' := h.trans (h'.mono h.size)

theorem count_pos {l : List Bool} (h : l.count false = 0) (i : Nat) : l.getD i true = true := by
  rw [List.count_eq_zero] at h
  cases hb : l[i]? with
  | none => simp [hb]
  | some b =>
    cases b with
    | true => simp [hb]
    | false => exact absurd (List.mem_of_getElem? hb) h

/-- WHATEVER THE ORDER. -/
theorem wpAny_order (hf : fits dst ops.toList = true) (hslots : ∀ i, i < ops.size → dst i < a0.tmps.size)
    (hmono : ∀ i v w w', Post i v w → Below w.heap.size w w' → Post i v w') (hsteps : AllSteps P a0 w0 dst ops.size maker Post ops.toList 0)
    (hend : ∀ (v : Nat → Value) (w : World), Below w0.heap.size w0 w → (∀ i, i < ops.size → Post i (v i) w) →
      (∀ i j, i < ops.size → j < ops.size → i ≠ j → maker i = true → maker j = true → ∀ b, blk (v i) = some b → blk (v j) ≠ some b) →
      Q .normal ((List.range ops.size).foldl (fun a i => a.put (some (dst i)) (v i)) a0) w) :
    ∀ (fuel : Nat) (listed : Array Bool) (v : Nat → Value) (w : World), listed.size = ops.size → listed.toList.count false = fuel → Below w0.heap.size w0 w →
      (∀ i, i < ops.size → listed.getD i true = true → Post i (v i) w ∧ (maker i = true → ∀ b, blk (v i) = some b → b < w.heap.size)) →
      (∀ i j, i < ops.size → j < ops.size → i ≠ j → listed.getD i true = true → listed.getD j true = true → maker i = true → maker j = true → ∀ b, blk (v i) = some b → blk (v j) ≠ some b) →
      wpAny P .any ops Q fuel listed (fill a0 dst (List.range ops.size) (fun i => listed.getD i true) v) w := by
  have hfits : ∀ i o, ops[i]? = some o → o.dst = some (dst i) ∧ o.guard = none ∧ (∀ e ∈ o.after, Region.binds .any e = true → e.on < i) ∧ ∀ j, j < ops.size → i ≠ j → dst i ≠ dst j := by
    intro i o ho
    have hi : i < ops.size := by
      rcases Nat.lt_or_ge i ops.size with h | h
      · exact h
      · simp [Array.getElem?_eq_none h] at ho
    have h1 := List.all_eq_true.1 hf i (by simpa using hi)
    have ho' : ops.toList[i]? = some o := by simpa using ho
    simp only [ho', Bool.and_eq_true, beq_iff_eq] at h1
    obtain ⟨⟨⟨h1, h2⟩, h3⟩, h4⟩ := h1
    refine ⟨h1, h2, fun e he hb => ?_, fun j hj hne => ?_⟩
    · have := Array.all_eq_true_iff_forall_mem.1 h3 e he
      rw [hb] at this
      simpa using this
    · have := List.all_eq_true.1 h4 j (by simpa using hj)
      simp [hne] at this
      exact this
  have hinj : ∀ i j, i < ops.size → j < ops.size → j ≠ i → dst j ≠ dst i := fun i j hi hj hne => by
    have hj' : ops[j]? = some ops[j] := by simp [hj]
    exact (hfits j _ hj').2.2.2 i hi hne
  intro fuel
  induction fuel with
  | zero =>
    intro listed v w hsz hcnt hb hP hM
    have hall : ∀ i, listed.getD i true = true := fun i => by
      have := count_pos hcnt i
      simpa using this
    have hr : Region.ready .any ops listed = [] := by
      rw [List.eq_nil_iff_forall_not_mem]
      intro i hi
      obtain ⟨h1, _⟩ := mem_ready.1 hi
      rw [hall i] at h1
      cases h1
    refine ⟨hr, ?_⟩
    rw [fill_all dst _ v _ a0 (fun j _ => hall j)]
    exact hend v w hb (fun i hi => (hP i hi (hall i)).1) (fun i j hi hj hne => hM i j hi hj hne (hall i) (hall j))
  | succ fuel ih =>
    intro listed v w hsz hcnt hb hP hM
    refine ⟨fun hr => ?_, fun i hi => ?_⟩
    · -- the least that has not come up may come up
      exfalso
      have hex : ∃ i, i < ops.size ∧ listed.getD i true = false := by
        have hm : false ∈ listed.toList := by
          rw [← List.count_pos_iff]; omega
        obtain ⟨i, hi, he⟩ := List.getElem_of_mem hm
        refine ⟨i, by simpa [hsz] using hi, ?_⟩
        have h2 : i < listed.size := by simpa using hi
        simpa [h2] using he
      have hleast : ∀ n i, i ≤ n → i < ops.size → listed.getD i true = false → ∃ k, k < ops.size ∧ listed.getD k true = false ∧ ∀ j, j < k → listed.getD j true = true := by
        intro n
        induction n with
        | zero => intro i hn hi he; exact ⟨i, hi, he, fun j hj => by omega⟩
        | succ n ihn =>
          intro i hn hi he
          by_cases hc : ∃ j, j < i ∧ listed.getD j true = false
          · obtain ⟨j, hj, hej⟩ := hc
            exact ihn j (by omega) (by omega) hej
          · refine ⟨i, hi, he, fun j hj => ?_⟩
            cases hl : listed.getD j true
            · exact absurd ⟨j, hj, hl⟩ hc
            · rfl
      obtain ⟨i, hi, he⟩ := hex
      obtain ⟨k, hk, hke, hkl⟩ := hleast i i (Nat.le_refl _) hi he
      have hko : ops[k]? = some ops[k] := by simp [hk]
      have hmem : k ∈ Region.ready .any ops listed := mem_ready.2 ⟨hke, _, hko, fun e he hbd => by
        have hlt := (hfits k _ hko).2.2.1 e he hbd
        have := hkl e.on hlt
        have hs : e.on < listed.size := by omega
        simpa [hs] using this⟩
      rw [hr] at hmem
      cases hmem
    · obtain ⟨hun, o, ho, hdep⟩ := mem_ready.1 hi
      have hlt : i < ops.size := by
        rcases Nat.lt_or_ge i ops.size with h | h
        · exact h
        · simp [Array.getElem?_eq_none h] at ho
      obtain ⟨hd, hgd, hback, _⟩ := hfits i o ho
      have hdep' : ∀ e ∈ o.after, Region.binds .any e = true → listed.getD e.on true = true := fun e he hbd => by
        have h1 := hdep e he hbd
        have hs : e.on < listed.size := by have := hback e he hbd; omega
        simpa [hs] using h1
      have hst := steps_at ops.toList 0 hsteps i o (by simpa using ho) (fill a0 dst (List.range ops.size) (fun i => listed.getD i true) v) w v hb
        (fun s hs => by rw [← eval_tmp, ← eval_tmp]; exact fill_out dst _ v s _ a0 (fun j hj => hs j (by simpa using hj)))
        (fun e he hbd => by
          have hlte : e.on < ops.size := by have := hback e he hbd; omega
          rw [← eval_tmp]
          exact ⟨fill_in dst _ v e.on (hdep' e he hbd) _ a0 (by simpa using hlte) (fun j hj hne => hinj e.on j hlte (by simpa using hj) hne) (hslots e.on hlte) List.nodup_range, (hP e.on hlte (hdep' e he hbd)).1⟩)
      rw [Nat.zero_add] at hst
      -- what follows, from the value and the world that it leaves
      have next : ∀ (x : Value) (w' : World), Below w.heap.size w w' → Post i x w' → (maker i = true → ∀ b, blk x = some b → w.heap.size ≤ b ∧ b < w'.heap.size) →
          wpAny P .any ops Q fuel (listed.setIfInBounds i true) ((fill a0 dst (List.range ops.size) (fun i => listed.getD i true) v).put o.dst x) w' := by
        intro x w' hb' hp hmk
        have hgd2 : ∀ j, (listed.setIfInBounds i true).getD j true = if j = i then true else listed.getD j true := by
          intro j
          by_cases hj : j = i
          · subst hj
            have : j < listed.size := by omega
            simp [this]
          · have hne : ¬ i = j := fun e => hj e.symm
            simp [hj, Array.getElem?_setIfInBounds_ne hne]
        have hfun : (fun j => (listed.setIfInBounds i true).getD j true) = fun j => if j = i then true else listed.getD j true := funext hgd2
        have key := ih (listed.setIfInBounds i true) (fun j => if j = i then x else v j) w' (by simpa using hsz) (by
            have hil : i < listed.toList.length := by simp; omega
            rw [Array.toList_setIfInBounds, List.count_set hil]
            have he : listed.toList[i] = false := by
              have : i < listed.size := by omega
              simpa [this] using hun
            rw [he]
            show listed.toList.count false - 1 + 0 = fuel
            omega) (below_step hb hb')
          (fun j hj hl => by
            by_cases hji : j = i
            · subst hji
              simp only [if_true]
              exact ⟨hp, fun hm b hbk => (hmk hm b hbk).2⟩
            · rw [hgd2 j] at hl
              simp only [hji, if_false] at hl ⊢
              obtain ⟨h1, h2⟩ := hP j hj hl
              exact ⟨hmono j _ w w' h1 hb', fun hm b hbk => Nat.lt_of_lt_of_le (h2 hm b hbk) hb'.size⟩)
          (fun j k hj hk hne hlj hlk hmj hmk' b hbj hbk => by
            rw [hgd2] at hlj hlk
            by_cases hji : j = i
            · have hki : k ≠ i := fun e => hne (hji.trans e.symm)
              simp only [hji, if_true] at hbj
              simp only [hki, if_false] at hbk hlk
              have h1 := (hmk (hji ▸ hmj) b hbj).1
              have h2 := (hP k hk hlk).2 hmk' b hbk
              omega
            · simp only [hji, if_false] at hbj hlj
              by_cases hki : k = i
              · simp only [hki, if_true] at hbk
                have h1 := (hmk (hki ▸ hmk') b hbk).1
                have h2 := (hP j hj hlj).2 hmj b hbj
                omega
              · simp only [hki, if_false] at hbk hlk
                exact hM j k hj hk hne hlj hlk hmj hmk' b hbj hbk)
        rw [hfun, fill_step dst i x _ v hun _ a0 List.nodup_range (by simpa using hlt) (fun j hj hne => hinj i j hlt (by simpa using hj) hne)] at key
        rw [hd]
        exact key
      unfold wpOp
      simp only [ho]
      have hw : Region.wanted o (yielded ops (fill a0 dst (List.range ops.size) (fun i => listed.getD i true) v).tmps) = true := by simp [Region.wanted, hgd]
      rw [hw]
      simp only [if_true]
      refine .inl ?_
      unfold Oper.wp
      rcases hst with ⟨x, w', hrun, h1, h2, h3⟩ | ⟨f, args, hrun, hc⟩
      · rw [hrun]
        exact next x w' h1 h2 h3
      · rw [hrun]
        refine Calls.mono hc ?_
        rintro e w' ⟨x, rfl, h1, h2, h3⟩
        exact next x w' h1 h2 h3

/-- THE LAW, at the region. -/
theorem wp_region_order {id : Nat} (hm : P.follows .mixedOrders = true) (dst : Nat → Tmp) (maker : Nat → Bool) (Post : Nat → Value → World → Prop) (N : Nat) (hN : a0.tmps.size = N)
    (hf : fits dst ops.toList = true) (hslots : ∀ i, i < ops.size → dst i < N)
    (hmono : ∀ i v w w', Post i v w → Below w.heap.size w w' → Post i v w') (hsteps : AllSteps P a0 w0 dst ops.size maker Post ops.toList 0)
    (hend : ∀ (v : Nat → Value) (w : World), Below w0.heap.size w0 w → (∀ i, i < ops.size → Post i (v i) w) →
      (∀ i j, i < ops.size → j < ops.size → i ≠ j → maker i = true → maker j = true → ∀ b, blk (v i) = some b → blk (v j) ≠ some b) →
      Q .normal ((List.range ops.size).foldl (fun a i => a.put (some (dst i)) (v i)) a0) w) :
    (Code.region id ops true).wp P Q a0 w0 := by
  refine wp_region_any hm ?_
  have h := wpAny_order (P := P) (Q := Q) hf (fun i hi => by rw [hN]; exact hslots i hi) hmono hsteps hend ops.size (Array.replicate ops.size false) (fun _ => undef) { w0 with drawn := w0.drawn + 1 } (by simp) (by simp) ((Below.refl _ w0).drew)
    (fun i hi hl => by simp [hi] at hl) (fun i j hi hj _ hl => by simp [hi] at hl)
  have e : fill a0 dst (List.range ops.size) (fun i => (Array.replicate ops.size false).getD i true) (fun _ => undef) = a0 := by
    have : ∀ (L : List Nat) (a : Act), (∀ j ∈ L, (Array.replicate ops.size false).getD j true = false) → fill a dst L (fun i => (Array.replicate ops.size false).getD i true) (fun _ => undef) = a := by
      intro L
      induction L with
      | nil => intro a _; rfl
      | cons j r ih =>
        intro a hL
        have hj := hL j (by simp)
        have := ih a (fun k hk => hL k (by simp [hk]))
        unfold fill at this ⊢
        rw [List.foldl_cons]
        simp only [hj, Bool.false_eq_true, if_false]
        exact this
    exact this _ _ (fun j hj => by have : j < ops.size := by simpa using hj
                                   simp [this])
  rw [e] at h
  exact h

end
end Go.Proofs.YbulkanjaFmt.Orders
