/-
  THE WALK of (*total).deliver (9).
-/
import Derived.Test.YbulkanjaFmtPlace
namespace Go.Proofs.YbulkanjaFmt.Tot
open Go.RowKit Go.Maps Go.Proofs.YbulkanjaFmt.MapsF

/-- What was delivered, as the row's cells. -/
def dlx (D : List (Nat × Nat)) : List Value := D.flatMap fun p => [.int .i64 (p.1 : Int), .int .i64 (p.2 : Int)]
theorem dlx_snoc (D : List (Nat × Nat)) (s i : Nat) : dlx (D ++ [(s, i)]) = dlx D ++ [.int .i64 (s : Int), .int .i64 (i : Int)] := by simp [dlx]

/-- How far the delivery has come: places delivered, bodies held, what was delivered. -/
structure Dlv where
  dv : Nat
  hv : Nat → Nat → Option (Nat × Nat)
  D : List (Nat × Nat)

def Dlv.next (L : List Nat) (p : Dlv) : Option Dlv :=
  match L[p.dv]? with
  | none => none
  | some s => match p.hv s (num L p.dv) with
    | none => none
    | some (_, i) => some ⟨p.dv + 1, updF p.hv s (updF (p.hv s) (num L p.dv) none), p.D ++ [(s, i)]⟩
def Dlv.run (L : List Nat) : Nat → Dlv → Dlv
  | 0, p => p
  | n + 1, p => match p.next L with
    | none => p
    | some p' => Dlv.run L n p'

/-- The state behind such a delivery. -/
def dlvd (x : St) (L : List Nat) (p : Dlv) (dw : Value) : St := { x with dw := dw, dn := fun t => (L.take p.dv).count t, dv := p.dv, hv := p.hv, dx := dlx p.D, nd := p.D.length }

theorem look_place {w w' : World} {b n : Nat} {f : Nat → Option Value} (h : MapN w b n f) (q : Nat) (hq : q < 18446744073709551616) (v : Value) (bo : Bool) (hv : (f q).getD (.agg #[.int .i64 0, .int .u64 0]) = v) (hb : (f q).isSome = bo) (hw : w'.heap[b]? = w.heap[b]?) :
    (Instr.lookup 58 (.map (some b)) (.int .u64 (q : Int)) true).run Ybaf.prog w' = .ok (.tuple #[v, .bool bo]) w' := by
  have := (h.of_block hw).look (t := 58) (e := 38) Ybaf.underlying58 (zero38 w') q hq
  rw [hv, hb] at this
  exact this

/-- 'delete(m, k)', as one step of a region that draws. -/
theorem step_delete {P : Program} {ops : Array Oper} {o : Oper} {a : Act} {w w' : World} {K : Act → World → Prop} {Q : Exit → Act → World → Prop} {E : Prop} (hg : o.guard = none) (m k : Operand) (t kt : TypeId)
    (hop : o.op = Op.call { callee := Callee.builtin Builtin.delete, args := #[m, k], argTypes := #[t, kt] }) (vm vk u : Value) (hm : a.eval m = vm) (hk : a.eval k = vk) (hrun : (Builtin.delete_ #[t, kt] o.type #[vm, vk]).run P w = .ok u w') (hK : K (a.put o.dst u) w') :
    if Region.wanted o (yielded ops a.tmps) = true then Oper.wp P o a w K Q else E := by
  have hw : Region.wanted o (yielded ops a.tmps) = true := by simp [Region.wanted, hg]
  rw [if_pos hw]
  unfold Oper.wp
  simp [execOp, hop, resolve, invoke, builtin, hm, hk, hrun, Result.andThen]
  exact hK

/-- The world, by a letter. -/
theorem wp_world {P : Program} {c : Code} {Q : Exit → Act → World → Prop} {a : Act} {w : World} (h : ∀ w2, w2 = w → Code.wp P c Q a w2) : Code.wp P c Q a w := h w rfl

/-- It ends as it should, in this frame, in such a world. -/
def OnlyAt (a' : Act) (Post : World → Prop) : Exit → Act → World → Prop
  | .normal, a2, w2 => a2 = a' ∧ Post w2
  | _, _, _ => False
/-- A region's many ways, brought to one. -/
theorem wp_region_post {P : Program} {id : Nat} {ops : Array Oper} {b : Bool} {Q : Exit → Act → World → Prop} {a a' : Act} {w : World} (Post : World → Prop) (h : Code.wp P (Code.region id ops b) (OnlyAt a' Post) a w) (hk : ∀ w2, Post w2 → Q .normal a' w2) : Code.wp P (Code.region id ops b) Q a w :=
  Code.wp_mono (fun e a2 w2 h => by
    cases e with
    | normal => obtain ⟨rfl, h3⟩ := h; exact hk w2 h3
    | _ => exact False.elim h) h

theorem run_step (L : List Nat) (p p' : Dlv) (h : p.next L = some p') (hd : p'.dv = p.dv + 1) (hl : p.dv < L.length) : Dlv.run L (L.length - p.dv) p = Dlv.run L (L.length - p'.dv) p' := by
  rw [show L.length - p.dv = (L.length - p'.dv) + 1 by omega]
  simp [Dlv.run, h]
theorem run_end (L : List Nat) (p : Dlv) (n : Nat) (h : p.next L = none) : Dlv.run L n p = p := by
  cases n with
  | zero => rfl
  | succ n => simp [Dlv.run, h]

theorem cnt_take (L : List Nat) (d s m : Nat) (hb : L[d]? = some s) (hm : m = (L.take d).count s + 1) : updF (fun t => (L.take d).count t) s m = fun t => (L.take (d + 1)).count t := by
  funext t
  unfold updF
  rw [List.take_add_one, hb]
  by_cases h : t = s
  · subst h; simp [List.count_append, hm]
  · rw [if_neg h]
    simp [List.count_append, List.count_singleton]
    exact fun e => h e.symm

theorem dlvd_next (x : St) (L : List Nat) (p : Dlv) (dw dw' : Value) (s m i d1 : Nat) (hb : L[p.dv]? = some s) (hm : m = (L.take p.dv).count s + 1) (hd : d1 = p.dv + 1) :
    ({ ({ ({ ({ dlvd x L p dw with hv := updF p.hv s (updF (p.hv s) m none) } : St) with dv := d1 } : St) with dn := updF (fun t => (L.take p.dv).count t) s m } : St) with dw := dw', nd := p.D.length + 1, dx := dlx p.D ++ [.int .i64 (s : Int), .int .i64 (i : Int)] } : St) = dlvd x L ⟨p.dv + 1, updF p.hv s (updF (p.hv s) m none), p.D ++ [(s, i)]⟩ dw' := by
  simp only [dlvd]
  rw [cnt_take L p.dv s m hb hm, dlx_snoc, hd]
  simp

set_option maxRecDepth 100000 in
set_option maxHeartbeats 3200000 in
theorem deliver_any (C : Cfg) (O : C.Ok) (x : St) (L : List Nat) (p0 : Dlv) (dw0 : Value) (w : World) (hx : x.plm = plf L) (hL : ∀ s ∈ L, s < 3) (S0 : PS w C (dlvd x L p0 dw0)) (hlen : L.length ≤ 3000) (hdv : p0.dv ≤ L.length) (hDl : p0.D.length ≤ 3000) :
    Calls Ybaf.prog 9 #[.pointer (some ⟨C.a 1, 0, none⟩)] w fun e w' => e = .returned .nilIface ∧ ∃ dw, PS w' C (dlvd x L (Dlv.run L (L.length - p0.dv) p0) dw) ∧ Keeps (Mine C x.bv dw0) w w' ∧ Moved w dw0 dw := by
  have HL := hide hL
  have HX := hide hx
  clear hL hx
  go_enter Ybaf.func9, Ybaf.ntmps9
  go_wp2
  go_loopg [3] (L.length + 1) (fun gk _ wr => ∃ p dw, gk + p.dv = L.length + 1 + p0.dv ∧ p.dv ≤ L.length ∧ p.D.length + p0.dv = p0.D.length + p.dv ∧ PS wr C (dlvd x L p dw) ∧ Keeps (Mine C x.bv dw0) w wr ∧ Moved w dw0 dw ∧ Dlv.run L (L.length - p.dv) p = Dlv.run L (L.length - p0.dv) p0)
  case atStart => exact ⟨p0, dw0, by omega, hdv, rfl, S0, Keeps.refl _ _, .inl rfl, rfl⟩
  case round =>
    obtain ⟨p, dw, hgk, hpl, hpD, S, hK, hMv, hrun⟩ := hrel
    obtain ⟨d, hd⟩ : ∃ d, d = p.dv := ⟨_, rfl⟩
    obtain ⟨d1, hd1⟩ : ∃ d1, d1 = p.dv + 1 := ⟨_, rfl⟩
    have hd64 : d1 < 18446744073709551616 := by omega
    have wd : IntKind.u64.wrap ((d : Int) + 1) = (d1 : Int) := by rw [wrap_u64]; omega
    have hlt : ∀ i, i < 10 → C.a i < wr.heap.size := fun i hi => Nat.lt_of_lt_of_le (O.lt i hi) S.hbase
    have l1 := hlt 1 (by decide)
    have l2 := hlt 2 (by decide)
    have l4 := hlt 4 (by decide)
    have l6 := hlt 6 (by decide)
    have cP7 : wr.cell? ⟨C.a 1, 7, none⟩ = _ := cell_of_row wr _ 7 _ _ _ S.hP
    have cP8 : wr.cell? ⟨C.a 1, 8, none⟩ = some (.int .u64 (d : Int)) := (cell_of_row wr _ 8 _ _ _ S.hP).trans (by rw [hd]; rfl)
    have cP6 : wr.cell? ⟨C.a 1, 6, none⟩ = _ := cell_of_row wr _ 6 _ _ _ S.hP
    have cP10 : wr.cell? ⟨C.a 1, 10, none⟩ = _ := cell_of_row wr _ 10 _ _ _ S.hP
    simp only [List.getElem?_toArray, List.getElem?_cons_succ, List.getElem?_cons_zero] at cP6 cP7 cP10
    have hplm : (dlvd x L p dw).plm = plf L := HX.out
    have hM := S.hM
    rw [hplm] at hM
    have HS := hide S
    have HK := hide hK
    have HMV := hide hMv
    have HGK := hide hgk
    have HRUN := hide hrun
    have HPD := hide hpD
    cases hb : L[p.dv]? with
    | none =>
      have hlk := look_place hM d1 hd64 (.agg #[.int .i64 0, .int .u64 0]) false (by rw [hd1]; simp [plf, hb]) (by rw [hd1]; simp [plf, hb]) (w' := wr) rfl
      have HE := hide hb
      clear S hK hMv hgk hrun hpD hb hM hplm S0 hd hd1
      go_wp2
      go_ret
      have e : Dlv.run L (L.length - p0.dv) p0 = p := by
        rw [← HRUN.out]
        exact run_end L p _ (by simp [Dlv.next, HE.out])
      rw [e]
      exact ⟨rfl, dw, HS.out.alloc O _, HK.out.alloc _, HMV.out⟩
    | some s =>
      have hs : s < 3 := HL.out s (List.mem_of_getElem? hb)
      have hpL : p.dv < L.length := (List.getElem?_eq_some_iff.1 hb).1
      obtain ⟨c, hc⟩ : ∃ c, c = (L.take p.dv).count s := ⟨_, rfl⟩
      obtain ⟨m, hm⟩ : ∃ m, m = num L p.dv := ⟨_, rfl⟩
      have hmc : m = c + 1 := by
        rw [hm, hc]
        unfold num
        rw [List.take_add_one, hb]
        simp [List.getD, hb, List.count_append]
      have hcl : c ≤ 3000 := by
        have h1 : (L.take p.dv).count s ≤ (L.take p.dv).length := List.count_le_length
        have h2 : (L.take p.dv).length ≤ L.length := by simp; omega
        omega
      have s0 : (0 : Int) ≤ (s : Int) := by omega
      have s3 : (s : Int) < 3 := by omega
      have hm64 : m < 18446744073709551616 := by omega
      have wm : IntKind.u64.wrap ((c : Int) + 1) = (m : Int) := by rw [wrap_u64]; omega
      have hle : ¬ ((m : Int) ≤ (c : Int)) := by omega
      have lh := hlt (7 + s) (by omega)
      have cD : wr.cell? ⟨C.a 4, s, none⟩ = some (.int .u64 (c : Int)) := (three (u := fun t => .int .u64 (((L.take p.dv).count t : Nat) : Int)) S.hD s hs).trans (by rw [hc])
      have cH : wr.cell? ⟨C.a 2, s, none⟩ = some (.map (some (C.a (7 + s)))) := three (u := fun t => .map (some (C.a (7 + t)))) S.hH s hs
      have hv := S.hh s hs
      have hlk := look_place hM d1 hd64 (.agg #[.int .i64 (s : Int), .int .u64 (m : Int)]) true (by rw [hd1, hm]; simp [plf, hb, idV]) (by rw [hd1]; simp [plf, hb]) (w' := wr) rfl
      have HB := hide hb
      have HM := hide hm
      have HMC := hide hmc
      have HC := hide hc
      have HD1 := hide hd1
      have HD := hide hd
      cases hbo : p.hv s m with
      | none =>
        have hlook := fun n => look_held hv m hm64 (.slice none 0 0) false (by show ((p.hv s m).map bodyV).getD _ = _; rw [hbo]; rfl) (by show ((p.hv s m).map bodyV).isSome = _; rw [hbo]; rfl) (w' := (wr.alloc (.cells #[.int .i64 (s : Int), .int .u64 (m : Int)] 38)).drewN n) (Below.heap_alloc wr _ _ lh)
        have HBO := hide hbo
        clear S hK hMv hgk hrun hpD hb hM hplm S0 hd hd1 hm hmc hc hbo hv
        go_wp2
        go_quiet (fail)
        go_wp2
        go_quiet (fail)
        go_wp2
        go_ret
        have e : Dlv.run L (L.length - p0.dv) p0 = p := by
          rw [← HRUN.out]
          refine run_end L p _ ?_
          simp [Dlv.next, HB.out, ← HM.out, HBO.out]
        rw [e]
        exact ⟨rfl, dw, (HS.out.alloc O _).drewN O _, (HK.out.alloc _).drewN _, HMV.out⟩
      | some bi =>
        obtain ⟨bb, i⟩ := bi
        have hlook := fun n => look_held hv m hm64 (.slice (some ⟨bb, 0, none⟩) 2 2) true (by show ((p.hv s m).map bodyV).getD _ = _; rw [hbo]; rfl) (by show ((p.hv s m).map bodyV).isSome = _; rw [hbo]; rfl) (w' := (wr.alloc (.cells #[.int .i64 (s : Int), .int .u64 (m : Int)] 38)).drewN n) (Below.heap_alloc wr _ _ lh)
        have HBO := hide hbo
        clear S hK hMv hgk hrun hpD hb hM hplm S0 hd hd1 hm hmc hc hbo hv
        go_wp2
        go_quiet (fail)
        go_wp2
        go_quiet (fail)
        clear hlook
        go_wp2
        go_quiet (fail)
        go_wp2
        refine wp_world ?_
        intro w2 hw2
        have S2 : PS w2 C (dlvd x L p dw) := by
          rw [hw2]
          exact ((HS.out.alloc O _).drewN O _).drewN O _
        have K2 : Keeps (Mine C x.bv dw0) w w2 := by
          rw [hw2]
          exact ((HK.out.alloc _).drewN _).drewN _
        have i0 : w2.cell? ⟨wr.heap.size, 0, none⟩ = some (.int .i64 (s : Int)) := by
          rw [hw2]
          exact World.cell?_alloc_at _ _ _ _ rfl
        have i1 : w2.cell? ⟨wr.heap.size, 1, none⟩ = some (.int .u64 (m : Int)) := by
          rw [hw2]
          exact World.cell?_alloc_at _ _ _ _ rfl
        have hz2 : wr.heap.size < w2.heap.size := World.block_lt_of_cell? w2 _ i0
        obtain ⟨hbw, hbb, hi⟩ := HS.out.bod s m bb i HBO.out
        have lbb : bb < wr.heap.size := (Array.getElem?_eq_some_iff.1 hbw).1
        have hb2 : w2.heap[bb]? = some (.cells #[.int .u8 ((i % 256 : Nat) : Int), .int .u8 ((i / 256 : Nat) : Int)] 5) := by
          rw [hw2]
          exact (Below.heap_alloc wr _ _ lbb).trans hbw
        clear hw2 cP6 cP7 cP8 cP10 cD cH hlk
        have cP6 : w2.cell? ⟨C.a 1, 6, none⟩ = _ := cell_of_row w2 _ 6 _ _ _ S2.hP
        simp only [List.getElem?_toArray, List.getElem?_cons_succ, List.getElem?_cons_zero] at cP6
        have cH : w2.cell? ⟨C.a 2, s, none⟩ = some (.map (some (C.a (7 + s)))) := three (u := fun t => .map (some (C.a (7 + t)))) S2.hH s hs
        obtain ⟨w5, hrun5, hM5, ht5⟩ := ((S2.drew O).hh s hs).drop (t := 63) (e := 40) Ybaf.underlying63 m hm64 0
        have S5 := (S2.drew O).drop O s m hs ht5 (Nat.le_refl _) hM5
        have K5 := K2.drew.turned ht5 (mine_at (7 + s) (by omega))
        have hne : wr.heap.size ≠ C.a (7 + s) := by omega
        have j0 : w5.cell? ⟨wr.heap.size, 0, none⟩ = some (.int .i64 (s : Int)) := (turned_cell ht5 ⟨wr.heap.size, 0, none⟩ hne).trans i0
        have j1 : w5.cell? ⟨wr.heap.size, 1, none⟩ = some (.int .u64 (m : Int)) := (turned_cell ht5 ⟨wr.heap.size, 1, none⟩ hne).trans i1
        have hb5 : w5.heap[bb]? = some (.cells #[.int .u8 ((i % 256 : Nat) : Int), .int .u8 ((i / 256 : Nat) : Int)] 5) := (turned_block ht5 (by have := O.lt (7 + s) (by omega); omega)).trans hb2
        have HB5 := hide hb5
        clear hb2 hbw hb5
        have HS5 := hide S5
        have HK5 := hide K5
        clear S2 K2 S5 K5 hM5 ht5
        apply wp_region_post (fun w2 => w2 = w5)
        case h =>
          go_region_law (refine step_delete (by rfl) _ _ _ _ (by rfl) _ _ _ (by rfl) (by rfl) hrun5 ?_)
          all_goals exact ⟨rfl, rfl⟩
        intro w9 h9
        rw [h9]
        clear h9 w9 hrun5 cP6 cH i0 i1
        have cP10 : w5.cell? ⟨C.a 1, 10, none⟩ = _ := cell_of_row w5 _ 10 _ _ _ HS5.out.hP
        have cP2 : w5.cell? ⟨C.a 1, 2, none⟩ = _ := cell_of_row w5 _ 2 _ _ _ HS5.out.hP
        have cP8 : w5.cell? ⟨C.a 1, 8, none⟩ = _ := cell_of_row w5 _ 8 _ _ _ HS5.out.hP
        simp only [List.getElem?_toArray, List.getElem?_cons_succ, List.getElem?_cons_zero] at cP2 cP8 cP10
        have cD : w5.cell? ⟨C.a 4, s, none⟩ = some (.int .u64 (c : Int)) := (three (u := fun t => .int .u64 (((L.take p.dv).count t : Nat) : Int)) HS5.out.hD s hs).trans (by rw [HC.out])
        have f8 := unfrozen HS5.out.hP 8
        have f4 := unfrozen HS5.out.hD s
        have n14 : C.a 1 ≠ C.a 4 := O.ne 1 4 (by decide) (by decide) (by decide)
        have n41 : C.a 4 ≠ C.a 1 := n14.symm
        have z1 : wr.heap.size ≠ C.a 1 := by omega
        have z4 : wr.heap.size ≠ C.a 4 := by omega
        have z1' := z1.symm
        have z4' := z4.symm
        go_wp2
        apply wp_region_post (fun w2 => w2 = ((w5.setCell ⟨C.a 1, 8, none⟩ (.int .u64 (d1 : Int))).drew).setCell ⟨C.a 4, s, none⟩ (.int .u64 (m : Int)))
        case h =>
          go_region
          all_goals exact ⟨rfl, rfl⟩
        intro w9 h9
        have S7 : PS w9 C ({ ({ ({ dlvd x L p dw with hv := updF p.hv s (updF (p.hv s) m none) } : St) with dv := d1 } : St) with dn := updF (fun t => (L.take p.dv).count t) s m } : St) := h9 ▸ ((HS5.out.setV O d1).drew O).setD O s m hs
        have K7 : Keeps (Mine C x.bv dw0) w w9 := h9 ▸ (((HK5.out.setCell (p := ⟨C.a 1, 8, none⟩) (mine_at 1 (by decide)) (.int .u64 (d1 : Int))).drew).setCell (p := ⟨C.a 4, s, none⟩) (mine_at 4 (by decide)) (.int .u64 (m : Int)))
        have j0' : w9.cell? ⟨wr.heap.size, 0, none⟩ = some (.int .i64 (s : Int)) := by
          rw [h9, far z4]
          show (w5.setCell _ _).cell? _ = _
          rw [far z1]
          exact j0
        have hb9 : w9.heap[bb]? = some (.cells #[.int .u8 ((i % 256 : Nat) : Int), .int .u8 ((i / 256 : Nat) : Int)] 5) := by
          rw [h9, Below.heap_setCell _ _ _ _ (by have := O.lt 4 (by decide); show bb ≠ C.a 4; omega)]
          show (w5.setCell _ _).heap[bb]? = _
          rw [Below.heap_setCell _ _ _ _ (by have := O.lt 1 (by decide); show bb ≠ C.a 1; omega)]
          exact HB5.out
        have hz9 : wr.heap.size < w9.heap.size := World.block_lt_of_cell? w9 _ j0'
        clear h9 j0 j1 cP10 cP2 cP8 cD f8 f4 hz2
        have cP2 : w9.cell? ⟨C.a 1, 2, none⟩ = _ := cell_of_row w9 _ 2 _ _ _ S7.hP
        simp only [List.getElem?_toArray, List.getElem?_cons_succ, List.getElem?_cons_zero] at cP2
        have HS7 := hide S7
        have HK7 := hide K7
        have HB9 := hide hb9
        clear S7 K7 hb9 n14 n41 z1 z4 z1' z4'
        have hDl2 : p.D.length ≤ 10000 := by have := HPD.out; omega
        have hmeth := meth_dl
        go_wp2_with fail
        apply wp_region_post (fun w2 => ∃ dw', w2.heap[C.a 0]? = some (.cells #[x.bv, dw'] 28) ∧ w2.ownsRow C.base 46 2 dw' (p.D.length + 1) (dlx p.D ++ [.int .i64 (s : Int), .int .i64 (((i % 256 : Nat) : Int) + 256 * ((i / 256 : Nat) : Int))]) ∧ Keeps (fun k => k = C.a 0 ∨ some k = dw.ownBlock) w9.drew w2 ∧ Moved w9.drew dw dw')
        case h =>
          go_region_with (go_at_call 29; refine (deliv_any (C.a 0) C.base p.D.length bb x.bv dw (dlx p.D) (s : Int) ((i % 256 : Nat) : Int) ((i / 256 : Nat) : Int) w9.drew HS7.out.hT HS7.out.od.drew HS7.out.hbase hDl2 HB9.out (by omega) (by omega) (by omega) (by omega)).mono ?_; rintro e w6 ⟨rfl, hq⟩)
          all_goals exact ⟨rfl, hq⟩
        rintro w6 ⟨dw', hT6, hown6, hk6, hm6⟩
        clear hmeth
        have ev : ((i % 256 : Nat) : Int) + 256 * ((i / 256 : Nat) : Int) = (i : Int) := by omega
        rw [ev] at hown6
        clear ev
        go_wp2
        go_roundg (L.length + p0.dv - p.dv)
        case measure => have := HGK.out; omega
        case rel =>
          have hn : p.next L = some ⟨p.dv + 1, updF p.hv s (updF (p.hv s) m none), p.D ++ [(s, i)]⟩ := by
            simp [Dlv.next, HB.out, ← HM.out, HBO.out]
          refine ⟨⟨p.dv + 1, updF p.hv s (updF (p.hv s) m none), p.D ++ [(s, i)]⟩, dw', ?_, ?_, ?_, ?_, HK7.out.drew.then hk6 (fun b hb h => ?_), HMV.out.trans hm6 HK7.out.size, ?_⟩
          · show _ + (p.dv + 1) = _
            have := HGK.out
            omega
          · exact hpL
          · have := HPD.out
            simp
            omega
          · rw [← dlvd_next x L p dw dw' s m i d1 HB.out (by rw [HMC.out, HC.out]) HD1.out]
            exact (HS7.out.drew O).told O hT6 hown6 hk6
          · rcases h with h | h
            · exact h ▸ mine_at 0 (by decide)
            · exact mine_moved (bv := x.bv) (.inl rfl) HMV.out hb (.inr (.inr h))
          · rw [← HRUN.out]
            exact (run_step L p _ hn rfl hpL).symm
end Go.Proofs.YbulkanjaFmt.Tot
