/-
  THE WALK of (*total).place (8).
-/
import Derived.Test.YbulkanjaFmtPlain
namespace Go.Proofs.YbulkanjaFmt.Tot
open Go.RowKit Go.Maps Go.Proofs.YbulkanjaFmt.MapsF

theorem zero40 (w : World) : (zeroValue 40).run Ybaf.prog w = .ok (.slice none 0 0) w := by kernel_rfl
theorem zero38 (w : World) : (zeroValue 38).run Ybaf.prog w = .ok (.agg #[.int .i64 0, .int .u64 0]) w := by kernel_rfl
theorem meth_bc (a : Addr) (w : World) : (method 203 24 (.pointer (some a)) "Broadcast").run Ybaf.prog w = .ok (28, .pointer (some a)) w := by kernel_rfl
theorem meth_dl (a : Addr) (w : World) : (method 203 24 (.pointer (some a)) "Deliver").run Ybaf.prog w = .ok (29, .pointer (some a)) w := by kernel_rfl

theorem wrap_u64 (n : Int) : IntKind.u64.wrap n = n % 18446744073709551616 := by
  simp [IntKind.wrap, IntKind.bits, IntKind.signed]

/-- The look-up into a sender's map, in whatever world bears that block. -/
theorem look_held {w w' : World} {b n : Nat} {f : Nat → Option Value} (h : MapN w b n f) (q : Nat) (hq : q < 18446744073709551616) (v : Value) (bo : Bool) (hv : (f q).getD (.slice none 0 0) = v) (hb : (f q).isSome = bo) (hw : w'.heap[b]? = w.heap[b]?) :
    (Instr.lookup 63 (.map (some b)) (.int .u64 (q : Int)) true).run Ybaf.prog w' = .ok (.tuple #[v, .bool bo]) w' := by
  have := (h.of_block hw).look (t := 63) (e := 40) Ybaf.underlying63 (zero40 w') q hq
  rw [hv, hb] at this
  exact this

theorem three {w : World} {b t : Nat} {u : Nat → Value} (h : w.heap[b]? = some (.cells #[u 0, u 1, u 2] t)) (s : Nat) (hs : s < 3) : w.cell? ⟨b, s, none⟩ = some (u s) := by
  rw [cell_of_row w b s _ _ _ h]
  match s, hs with
  | 0, _ => rfl
  | 1, _ => rfl
  | 2, _ => rfl
theorem far {w : World} {b o b' o' : Nat} {v : Value} (h : b' ≠ b) : (w.setCell ⟨b, o, none⟩ v).cell? ⟨b', o', none⟩ = w.cell? ⟨b', o', none⟩ := World.cell?_setCell_other _ _ _ _ (fun e => by cases e; exact h rfl)
theorem unfrozen {w : World} {b t : Nat} {cs : Array Value} (h : w.heap[b]? = some (.cells cs t)) (o : Nat) : w.frozen? ⟨b, o, none⟩ = false := by simp [World.frozen?, h]
theorem Moved.trans {w w1 : World} {v v1 v2 : Value} (h : Moved w v v1) (h1 : Moved w1 v1 v2) (hs : w.heap.size ≤ w1.heap.size) : Moved w v v2 := by
  rcases h1 with h1 | h1
  · rcases h with h | h
    · exact .inl (h1.trans h)
    · exact .inr fun k hk => h k (h1 ▸ hk)
  · exact .inr fun k hk => Nat.le_trans hs (h1 k hk)
theorem Keeps.then {S S' : Nat → Prop} {a w w' : World} (h : Keeps S a w) (h' : Keeps S' w w') (hs : ∀ k, k < a.heap.size → S' k → S k) : Keeps S a w' :=
  ⟨h'.os.trans h.os, h'.tape.trans h.tape, h'.output.trans h.output, Nat.le_trans h.size h'.size, fun k hk hk' => (h'.block k (Nat.lt_of_lt_of_le hk h.size) (fun e => hk' (hs k hk e))).trans (h.block k hk hk')⟩

/-- What the member's own calls may turn. -/
def Mine (C : Cfg) (bv dw : Value) (k : Nat) : Prop := (∃ i, i < 10 ∧ k = C.a i) ∨ some k = bv.ownBlock ∨ some k = dw.ownBlock
theorem mine_at {C : Cfg} {bv dw : Value} (i : Nat) (hi : i < 10) : Mine C bv dw (C.a i) := .inl ⟨i, hi, rfl⟩
theorem mine_moved {C : Cfg} {w : World} {bv bv' dw dw' : Value} (h : Moved w bv bv') (h' : Moved w dw dw') {k : Nat} (hk : k < w.heap.size) (hm : Mine C bv' dw' k) : Mine C bv dw k := by
  rcases hm with hm | hm | hm
  · exact .inl hm
  · rcases h with h | h
    · exact .inr (.inl (hm.trans h))
    · have := h k hm.symm; omega
  · rcases h' with h | h
    · exact .inr (.inr (hm.trans h))
    · have := h k hm.symm; omega

theorem placed_snoc (x : St) (M : List Nat) (s q g1 : Nat) (bv bv' : Value) (hq : q = M.count s + 1) (hg : g1 = M.length + 1) :
    ({ ({ ({ ({ placed x M bv with pl := updF (placed x M bv).pl s q } : St) with gv := g1 } : St) with plm := updF (plf M) g1 (some (idV s q)), nM := M.length + 1 } : St) with bv := bv', nb := M.length + 1, bx := pks M ++ pkt (g1 : Int) (q : Int) (s : Int) } : St) = placed x (M ++ [s]) bv' := by
  simp only [placed]
  rw [cnt_snoc M s q hq, plf_snoc M s g1 q hg hq, pks_snoc M s g1 q hg hq, hg]
  simp

set_option maxRecDepth 100000 in
set_option maxHeartbeats 3200000 in
theorem place_any (C : Cfg) (O : C.Ok) (x : St) (L : List Nat) (s : Nat) (bv0 : Value) (w : World) (hs : s < 3) (S0 : PS w C (placed x L bv0)) (hbd : ∀ m, 8 < m → x.hv s m = none) (hlen : L.length ≤ 2000) :
    Calls Ybaf.prog 8 #[.pointer (some ⟨C.a 1, 0, none⟩), .int .i64 (s : Int)] w fun e w' => e = .returned (.tuple #[]) ∧ ∃ k bv, k ≤ 9 ∧ PS w' C (placed x (L ++ List.replicate k s) bv) ∧ Keeps (Mine C bv0 x.dw) w w' ∧ Moved w bv0 bv ∧
      (∀ j, j < k → (x.hv s (L.count s + 1 + j)).isSome = true) ∧ x.hv s (L.count s + 1 + k) = none := by
  have s0 : (0 : Int) ≤ (s : Int) := by omega
  have s3 : (s : Int) < 3 := by omega
  have HBD := hide hbd
  clear hbd
  go_enter Ybaf.func8, Ybaf.ntmps8
  go_wp2
  go_loopg [7] 9 (fun gk _ wr => ∃ k bv, gk + k = 9 ∧ PS wr C (placed x (L ++ List.replicate k s) bv) ∧ Keeps (Mine C bv0 x.dw) w wr ∧ Moved w bv0 bv ∧ (∀ j, j < k → (x.hv s (L.count s + 1 + j)).isSome = true))
  case atStart => exact ⟨0, bv0, rfl, by simpa using S0, Keeps.refl _ _, .inl rfl, fun j h => by omega⟩
  case round =>
    obtain ⟨k, bv, hgk, S, hK, hMv, hall⟩ := hrel
    have eM : L ++ List.replicate (k + 1) s = (L ++ List.replicate k s) ++ [s] := by rw [List.replicate_succ', List.append_assoc]
    obtain ⟨M, hM⟩ : ∃ M, M = L ++ List.replicate k s := ⟨_, rfl⟩
    have hMl : M.length = L.length + k := by rw [hM]; simp
    have hMc : M.count s = L.count s + k := by rw [hM]; simp [List.count_append]
    rw [← hM] at S eM
    obtain ⟨c, hc⟩ : ∃ c, c = M.count s := ⟨_, rfl⟩
    obtain ⟨q, hq⟩ : ∃ q, q = M.count s + 1 := ⟨_, rfl⟩
    obtain ⟨g, hg⟩ : ∃ g, g = M.length := ⟨_, rfl⟩
    obtain ⟨g1, hg1⟩ : ∃ g1, g1 = M.length + 1 := ⟨_, rfl⟩
    have hcl : c ≤ M.length := by rw [hc]; exact List.count_le_length
    have hk9 : k ≤ 9 := by omega
    have hq64 : q < 18446744073709551616 := by omega
    have hg64 : g1 < 18446744073709551616 := by omega
    have wq : IntKind.u64.wrap ((c : Int) + 1) = (q : Int) := by rw [wrap_u64]; omega
    have wg : IntKind.u64.wrap ((g : Int) + 1) = (g1 : Int) := by rw [wrap_u64]; omega
    have hlt : ∀ i, i < 10 → C.a i < wr.heap.size := fun i hi => Nat.lt_of_lt_of_le (O.lt i hi) S.hbase
    have l1 := hlt 1 (by decide)
    have l2 := hlt 2 (by decide)
    have l3 := hlt 3 (by decide)
    have l0 := hlt 0 (by decide)
    have lh := hlt (7 + s) (by omega)
    have cP2 : wr.cell? ⟨C.a 1, 2, none⟩ = _ := cell_of_row wr _ 2 _ _ _ S.hP
    have cP6 : wr.cell? ⟨C.a 1, 6, none⟩ = _ := cell_of_row wr _ 6 _ _ _ S.hP
    have cP7 : wr.cell? ⟨C.a 1, 7, none⟩ = _ := cell_of_row wr _ 7 _ _ _ S.hP
    have cP11 : wr.cell? ⟨C.a 1, 11, none⟩ = some (.int .u64 (g : Int)) := (cell_of_row wr _ 11 _ _ _ S.hP).trans (by rw [hg]; rfl)
    have cP12 : wr.cell? ⟨C.a 1, 12, none⟩ = _ := cell_of_row wr _ 12 _ _ _ S.hP
    simp only [List.getElem?_toArray, List.getElem?_cons_succ, List.getElem?_cons_zero] at cP2 cP6 cP7 cP12
    have cL : wr.cell? ⟨C.a 3, s, none⟩ = some (.int .u64 (c : Int)) := (three (u := fun t => .int .u64 ((M.count t : Nat) : Int)) S.hL s hs).trans (by rw [hc])
    have cH : wr.cell? ⟨C.a 2, s, none⟩ = some (.map (some (C.a (7 + s)))) := three (u := fun t => .map (some (C.a (7 + t)))) S.hH s hs
    have f3 := unfrozen S.hL s
    have f11 := unfrozen S.hP 11
    have hv := S.hh s hs
    have HS := hide S
    have HK := hide hK
    have HMV := hide hMv
    have HALL := hide hall
    have HGK := hide hgk
    have EM := hide eM
    have HC := hide hc
    have HQ := hide hq
    have HG := hide hg
    have HG1 := hide hg1
    have HM := hide hM
    have HMC := hide hMc
    have HML := hide hMl
    have ne13 : C.a 1 ≠ C.a 3 := O.ne 1 3 (by decide) (by decide) (by decide)
    have ne31 : C.a 3 ≠ C.a 1 := ne13.symm
    clear S hK hMv hall hgk eM hc hq hg hg1 hM hMc hMl hcl S0
    cases hb : x.hv s q with
    | none =>
      have hlook := fun n => look_held hv q hq64 (.slice none 0 0) false (by show ((x.hv s q).map bodyV).getD _ = _; rw [hb]; rfl) (by show ((x.hv s q).map bodyV).isSome = _; rw [hb]; rfl) (w' := (wr.alloc (.cells #[.int .i64 (s : Int), .int .u64 (q : Int)] 38)).drewN n) (Below.heap_alloc wr _ _ lh)
      clear hv cP2 cP7 cP11 f3 f11
      go_wp2
      go_quiet (fail)
      go_wp2
      refine bodyPost_ret (v := .tuple #[]) (by simp [results, Ybaf.results8]) rfl ?_
      refine ⟨rfl, k, bv, hk9, ?_, (HK.out.alloc _).drewN _, HMV.out, HALL.out, ?_⟩
      · rw [← HM.out]
        exact (HS.out.alloc O _).drewN O _
      · have e : L.count s + 1 + k = q := by have h1 := HQ.out; have h2 := HMC.out; omega
        rw [e]
        exact hb
    | some p =>
      have hk7 : k ≤ 7 := by
        rcases Nat.lt_or_ge 8 q with h | h
        · rw [HBD.out q h] at hb; cases hb
        · have h1 := HQ.out; have h2 := HMC.out; omega
      have hlook := fun n => look_held hv q hq64 (bodyV p) true (by show ((x.hv s q).map bodyV).getD _ = _; rw [hb]; rfl) (by show ((x.hv s q).map bodyV).isSome = _; rw [hb]; rfl) (w' := (wr.alloc (.cells #[.int .i64 (s : Int), .int .u64 (q : Int)] 38)).drewN n) (Below.heap_alloc wr _ _ lh)
      have HE := hide hb
      clear hv hb
      go_wp2
      go_quiet (fail)
      clear hlook
      go_wp2
      go_region
      go_wp2
      have S4 := ((((HS.out.alloc O (.cells #[.int .i64 (s : Int), .int .u64 (q : Int)] 38)).drewN O (nq + 1)).setL O s q hs).setG O g1).drew O
      obtain ⟨w5, hrun5, hM5, ht5⟩ := S4.hM.store (t := 58) (e := 38) Ybaf.underlying58 (by have h1 := HML.out; show M.length < maxLen; unfold maxLen; omega) g1 hg64 (idV s q)
      have S5 := S4.setM O ht5 hM5
      have c4 : w5.cell? ⟨wr.heap.size, 1, none⟩ = some (.int .u64 (q : Int)) := by
        have hne : wr.heap.size ≠ C.a 6 := by have := hlt 6 (by decide); omega
        have hne2 : wr.heap.size ≠ C.a 3 := by omega
        have hne3 : wr.heap.size ≠ C.a 1 := by omega
        rw [turned_cell ht5 ⟨wr.heap.size, 1, none⟩ hne]
        show ((((wr.alloc _).drewN (nq + 1)).setCell _ _).setCell _ _).cell? _ = _
        rw [far hne3, far hne2]
        exact World.cell?_alloc_at _ _ _ _ rfl
      have HK5 := hide ((((((HK.out.alloc (.cells #[.int .i64 (s : Int), .int .u64 (q : Int)] 38)).drewN (nq + 1)).setCell (p := ⟨C.a 3, s, none⟩) (mine_at 3 (by decide)) (.int .u64 (q : Int))).setCell (p := ⟨C.a 1, 11, none⟩) (mine_at 1 (by decide)) (.int .u64 (g1 : Int))).drew).turned ht5 (mine_at 6 (by decide)))
      have hz5 : wr.heap.size < w5.heap.size := by rw [turned_size ht5]; simp [World.setCell]
      have HS5 := hide S5
      simp only [idV] at hrun5
      clear S4 S5 hM5 ht5
      go_region
      clear hrun5 cP2 cP6 cP7 cP11 cP12 cL cH f3 f11
      have cP2 : w5.cell? ⟨C.a 1, 2, none⟩ = _ := cell_of_row w5 _ 2 _ _ _ HS5.out.hP
      have cP11 : w5.cell? ⟨C.a 1, 11, none⟩ = _ := cell_of_row w5 _ 11 _ _ _ HS5.out.hP
      simp only [List.getElem?_toArray, List.getElem?_cons_succ, List.getElem?_cons_zero] at cP2 cP11
      clear l1 l2 l3 l0 lh ne13 ne31 wq wg
      go_wp2_with fail
      have hmeth := meth_bc
      have hML : M.length ≤ 10000 := by have := HML.out; omega
      go_region_with (go_at_call 28; refine (bcast_any (C.a 0) C.base M.length bv x.dw (pks M) (g1 : Int) (q : Int) (s : Int) w5.drew HS5.out.hT HS5.out.ob.drew HS5.out.hbase hML).mono ?_; rintro e w6 ⟨rfl, bv', hT6, hown6, hk6, hm6⟩)
      all_goals
        clear hmeth
        go_wp2
        go_roundg (8 - k)
        case measure => have := HGK.out; omega
        case rel =>
          refine ⟨k + 1, bv', by omega, ?_, HK5.out.drew.then hk6 (fun b hb h => ?_), HMV.out.trans hm6 HK5.out.size, fun j hj => ?_⟩
          · rw [EM.out, ← placed_snoc x M s q g1 bv bv' HQ.out HG1.out]
            exact (HS5.out.drew O).sent O hT6 hown6 hk6
          · rcases h with h | h
            · exact h ▸ mine_at 0 (by decide)
            · exact mine_moved (dw := x.dw) HMV.out (.inl rfl) hb (.inr (.inl h))
          · by_cases hjk : j = k
            · have e : L.count s + 1 + j = q := by have h1 := HQ.out; have h2 := HMC.out; omega
              rw [e, HE.out]
              rfl
            · exact HALL.out j (by omega)
end Go.Proofs.YbulkanjaFmt.Tot
