/-
  THE LOOP of LawS1950BFollower over the steps, and its end.
-/
import Derived.Test.YbulkanjaFmtFolInner
import Derived.Test.YbulkanjaFmtStart
import Derived.Test.YbulkanjaFmtSeqMain
namespace Go.Proofs.YbulkanjaFmt.Tot
open Go.RowKit Go.Maps Go.Proofs.YbulkanjaFmt.MapsF

/-- The follower behind the learning of the places L, k bodies put. -/
def stF (L : List Nat) (k : Nat) : St := { st0 with plm := plf L, nM := L.length, nH := k }

set_option maxRecDepth 100000 in
set_option maxHeartbeats 3200000 in
theorem fol_end (w0 w : World) (C : Cfg) (x : St) (hb pb : Nat) (Q : Nat → Obj → Prop) (D : Side C w0.heap.size hb pb Q) (L : List Nat) (p : Dlv) (n : Nat) (pf : Nat → Nat) (dw vD : Value) (hbv : x.bv = .slice none 0 0) (hdv : p.dv ≤ 1024) (hDl : p.D.length = p.dv)
    (hJ : J w0 w C (dlvd x L p dw) hb pb Q (mdF p n vD pf)) {c0 c1 c2 c3 c4 c5 c6 c7 c10 c11 c12 c13 c14 c15 c16 c19 c20 c21 c22 c23 c24 c25 c26 c27 c28 c29 c30 c31 c32 c33 c34 c35 c36 c37 c38 c39 c40 c41 c42 c43 c44 c45 c46 c47 c48 c49 c50 c51 c52 c53 c54 c55 c56 c57 c58 c59 c60 c61 c62 c63 c64 c65 c66 c67 c68 c69 c70 c71 c72 c73 c74 c75 c76 c77 c78 c79 c80 c81 c82 c83 c84 c85 c86 c87 c88 c89 c90 c91 c92 c93 c94 c95 c96 c97 c98 c99 c100 c101 c102 c103 c104 c105 c106 c107 c108 c109 c110 c111 c112 c113 c114 c115 c116 c117 c118 c119 c120 c121 c122 c123 c124 c125 c126 c127 c128 c129 c130 c131 c132 c133 c134 c135 c136 c137 c138 c139 c140 c141 c142 c143 c144 c145 c146 c147 c148 c149 c150 c151 c152 c153 c154 c155 c156 c157 c158 c159 c160 c161 c162 c163 c164 c165 c166 c167 c168 c169 : Value} :
    Code.wp Ybaf.prog (dropSeq 12 (Ybaf.f4.body.getD .skip)) (bodyPost Ybaf.prog Ybaf.f4 (fun e w' => e = .returned (.bool true) ∧ Below w0.heap.size w0 w')) ⟨#[c0, c1, c2, c3, c4, c5, c6, c7, .pointer (some ⟨C.a 0, 0, none⟩), .pointer (some ⟨C.a 1, 0, none⟩), c10, c11, c12, c13, c14, c15, c16, vD, .int .i64 (p.dv : Int), c19, c20, c21, c22, c23, c24, c25, c26, c27, c28, c29, c30, c31, c32, c33, c34, c35, c36, c37, c38, c39, c40, c41, c42, c43, c44, c45, c46, c47, c48, c49, c50, c51, c52, c53, c54, c55, c56, c57, c58, c59, c60, c61, c62, c63, c64, c65, c66, c67, c68, c69, c70, c71, c72, c73, c74, c75, c76, c77, c78, c79, c80, c81, c82, c83, c84, c85, c86, c87, c88, c89, c90, c91, c92, c93, c94, c95, c96, c97, c98, c99, c100, c101, c102, c103, c104, c105, c106, c107, c108, c109, c110, c111, c112, c113, c114, c115, c116, c117, c118, c119, c120, c121, c122, c123, c124, c125, c126, c127, c128, c129, c130, c131, c132, c133, c134, c135, c136, c137, c138, c139, c140, c141, c142, c143, c144, c145, c146, c147, c148, c149, c150, c151, c152, c153, c154, c155, c156, c157, c158, c159, c160, c161, c162, c163, c164, c165, c166, c167, c168, c169], []⟩ w := by
  obtain ⟨m, hm⟩ : ∃ m, m = p.dv := ⟨_, rfl⟩
  obtain ⟨pD, capD, eD⟩ := own_slice hJ.S.od
  obtain ⟨pF, capF, eF⟩ := own_slice hJ.oD
  have nd : (dlvd x L p dw).nd = m := hDl.trans hm.symm
  have nF : (mdF p n vD pf).nD = m := hDl.trans hm.symm
  rw [nd] at eD
  rw [nF] at eF
  have eD' : dw = .slice pD m capD := eD
  have eF' : vD = .slice pF m capF := eF
  clear eD eF nd nF
  subst eD' eF'
  have hm2 : m ≤ 1024 := by omega
  have i2 : (m : Int) ≤ 1024 := by omega
  have l0 : C.a 0 < w.heap.size := Nat.lt_of_lt_of_le (D.O.lt 0 (by decide)) hJ.S.hbase
  have l1 : C.a 1 < w.heap.size := Nat.lt_of_lt_of_le (D.O.lt 1 (by decide)) hJ.S.hbase
  have cT0 : w.cell? ⟨C.a 0, 0, none⟩ = some (.slice none 0 0) := (cell_of_row w _ 0 _ _ _ hJ.S.hT).trans (by show some x.bv = _; rw [hbv])
  have cT1 : w.cell? ⟨C.a 0, 1, none⟩ = some (.slice pD m capD) := cell_of_row w _ 1 _ _ _ hJ.S.hT
  have cP8 : w.cell? ⟨C.a 1, 8, none⟩ = some (.int .u64 (m : Int)) := (cell_of_row w _ 8 _ _ _ hJ.S.hP).trans (by show some (Value.int .u64 (p.dv : Int)) = _; rw [← hm])
  have r1 : RowD w pD p.D := by
    obtain ⟨_, p', cap', e', h⟩ := rowD_of hJ.S.od
    have e2 : Value.slice pD m capD = _ := e'
    rw [(Value.slice.inj e2).1]
    exact h
  have r2 : RowD w pF p.D := by
    obtain ⟨_, p', cap', e', h⟩ := rowD_of hJ.oD
    have e2 : Value.slice pF m capF = _ := e'
    rw [(Value.slice.inj e2).1]
    exact h
  have hmD : m = p.D.length := by rw [hDl]; exact hm
  have HMD := hide hmD
  have HR1 := hide r1
  have HR2 := hide r2
  have HJ := hide hJ
  have wm : IntKind.u64.wrap (m : Int) = (m : Int) := by rw [wrap_u64]; omega
  have HM := hide hm
  rw [← hm]
  clear r1 r2 hJ hmD hDl hdv hbv hm
  conv => arg 2; whnf
  go_wp2_with (go_at_call 7; refine (same_any pD pF capD capF m p.D w HMD.out (by omega) HR1.out HR2.out).mono ?_; rintro e w7 ⟨rfl, nn, rfl⟩)
  go_ret
  exact ⟨rfl, ((HJ.out.drewN D nn).kw).below (Nat.le_refl _) (fun _ h => h)⟩

/-- Where the follower's blocks lie, ahead of its map. -/
structure SideF (C : Cfg) (B pb : Nat) : Prop where
  O : C.Ok
  bB : B ≤ C.base
  aB : ∀ i, i < 10 → B ≤ C.a i
  pB : B ≤ pb
  pl : pb < C.base
  pa : ∀ i, i < 10 → C.a i ≠ pb

/-- What holds as the places are learnt. -/
structure K1 (w0 w : World) (C : Cfg) (pb : Nat) (L : List Nat) (vL : Value) : Prop where
  S : PS w C (stF L 0)
  pl : w.heap[pb]? = some (.cells #[.int .u64 (L.count 0 : Int), .int .u64 (L.count 1 : Int), .int .u64 (L.count 2 : Int)] 33)
  oL : w.ownsRow C.base 38 2 vL L.length (ids L)
  kw : Keeps (fun k => w0.heap.size ≤ k) w0 w

/-- The map is made: the loop over the steps begins. -/
theorem K1.start {w0 w : World} {C : Cfg} {pb : Nat} {L : List Nat} {vL : Value} (h : K1 w0 w C pb L vL) (F : SideF C w0.heap.size pb) :
    ∃ C' : Cfg, ∃ Q : Nat → Obj → Prop, (∀ i, C'.a i = C.a i) ∧ C'.self = C.self ∧ C'.seq = C.seq ∧ Side C' w0.heap.size w.heap.size pb Q ∧ (∀ w' : World, (∀ k o, Q k o → w'.heap[k]? = some o) → w'.ownsRow C.base 38 2 vL L.length (ids L)) ∧
      J w0 (w.alloc (.map #[] 0)) C' (dlvd (stF L 0) L dlv0 (.slice none 0 0)) w.heap.size pb Q (mdF dlv0 0 (.slice none 0 0) (fun t => L.count t)) := by
  have S1 := h.S.alloc F.O (.map #[] 0)
  have hbase := h.S.hbase
  have lp : pb < w.heap.size := lt_blk h.pl
  have la : ∀ i, i < 10 → C.a i < w.heap.size := fun i hi => Nat.lt_of_lt_of_le (F.O.lt i hi) hbase
  have kw1 := h.kw.alloc (.map #[] 0)
  have hsz := h.kw.size
  refine ⟨{ C with base := w.heap.size + 1 }, fun k o => vL.ownBlock = some k ∧ w.heap[k]? = some o, fun _ => rfl, rfl, rfl, ⟨⟨F.O.ne, fun i hi => ?_⟩, ?_, F.aB, hsz, F.pB, ?_, ?_, ?_, ?_, F.pa, ?_⟩, ?_, ⟨?_, ?_, ?_, ?_, ?_, ?_, ?_, kw1⟩⟩
  · have := la i hi; show C.a i < w.heap.size + 1; omega
  · show w0.heap.size ≤ w.heap.size + 1; omega
  · show w.heap.size < w.heap.size + 1; omega
  · show pb < w.heap.size + 1; omega
  · omega
  · intro i hi; have := la i hi; show C.a i ≠ w.heap.size; omega
  · rintro k o ⟨hk, ho⟩
    have := (h.oL.lt k hk).1
    have := (h.oL.lt k hk).2
    refine ⟨?_, by omega, by have := F.pl; omega, fun i hi => ?_⟩
    · show k < w.heap.size + 1; omega
    · have := F.O.lt i hi; show k ≠ C.a i; omega
  · intro w' hq
    refine own_of_block h.oL (fun k hk => ?_)
    have hlt := (h.oL.lt k hk).2
    obtain ⟨o, ho⟩ : ∃ o, w.heap[k]? = some o := ⟨_, Array.getElem?_eq_getElem hlt⟩
    rw [ho]
    exact hq k o ⟨hk, ho⟩
  · exact ⟨S1.hT, S1.hP, S1.hH, S1.hL, S1.hD, S1.hO, S1.hM, S1.hh, World.ownsRow_nil _ _ _ _, World.ownsRow_nil _ _ _ _, fun s m bb i h => (by cases h), by simp⟩
  · exact mapM_made (heap_alloc_new w _)
  · exact (Below.heap_alloc w _ _ lp).trans h.pl
  · exact World.ownsRow_nil _ _ _ _
  · exact World.ownsRow_nil _ _ _ _
  · intro k hk; cases hk
  · rintro k o ⟨hk, ho⟩
    rw [Below.heap_alloc w _ _ (lt_blk ho)]
    exact ho

/-- 'held[id] = i' -/
theorem fol_store {w0 wr : World} {C : Cfg} {x : St} {hb pb : Nat} {Q : Nat → Obj → Prop} {p : Dlv} {k s m : Nat} {vD : Value} {pf : Nat → Nat} (D : Side C w0.heap.size hb pb Q) (hj : J w0 wr C x hb pb Q (mdF p k vD pf)) (hs : s < 3) (hm : m < 18446744073709551616) (hk : k < maxLen) (xk nk : Int) :
    ∃ w3, (Instr.mapUpdate 31 (.map (some hb)) (idV s m) (.int .i64 (k : Int))).run Ybaf.prog ((wr.alloc (.cells #[.int .u8 xk, .int .u8 nk] 36)).alloc (.cells #[.int .i64 (s : Int), .int .u64 (m : Int)] 38)) = .ok () w3 ∧
      w3.cell? ⟨wr.heap.size + 1, 0, none⟩ = some (.int .i64 (s : Int)) ∧ w3.cell? ⟨wr.heap.size + 1, 1, none⟩ = some (.int .u64 (m : Int)) ∧ (∀ bb, J w0 w3 C x hb pb Q (mdF (p.put s m bb k) (k + 1) vD pf)) ∧ wr.heap.size + 1 < w3.heap.size := by
  have J2 := (hj.alloc D (.cells #[.int .u8 xk, .int .u8 nk] 36)).alloc D (.cells #[.int .i64 (s : Int), .int .u64 (m : Int)] 38)
  obtain ⟨w3, hrun, hm3, ht3⟩ := J2.mh.store hk s m hs hm (.int .i64 (k : Int))
  have lh : hb < wr.heap.size := hj.mh.lt
  have hne : wr.heap.size + 1 ≠ hb := by omega
  refine ⟨w3, hrun, ?_, ?_, fun bb => ?_, ?_⟩
  · rw [turned_cell ht3 ⟨wr.heap.size + 1, 0, none⟩ hne]
    exact World.cell?_alloc_at _ _ _ _ (by simp)
  · rw [turned_cell ht3 ⟨wr.heap.size + 1, 1, none⟩ hne]
    exact World.cell?_alloc_at _ _ _ _ (by simp)
  · have J3 := J2.turn D ht3 hm3
    have e : updM (mdF p k vD pf).hm s m (some (.int .i64 (k : Int))) = mod (p.put s m bb k).hv := mod_put p.hv s m bb k
    rw [e] at J3
    exact J3
  · rw [turned_size ht3]
    simp

set_option maxRecDepth 100000 in
set_option maxHeartbeats 3200000 in
theorem fol_main (w0 w : World) (C : Cfg) (pb : Nat) (L : List Nat) (F : SideF C w0.heap.size pb) (pL : Option Addr) (nL capL : Nat) (a : Option Addr) (len cap : Nat) (xs ns : Nat → Int) (hl : len ≤ 1024) (hn : nL = L.length) (hL3 : ∀ s ∈ L, s < 3) (hlen : L.length ≤ 1024)
    (hst : Steps w0 a len xs ns) (hself : C.self ≠ C.seq) (hK : K1 w0 w C pb L (.slice pL nL capL)) {c0 c1 c3 c4 c5 c6 c7 c10 c12 c13 c14 c15 c16 c17 c18 c19 c20 c21 c22 c23 c24 c25 c26 c27 c28 c29 c30 c31 c32 c33 c34 c35 c36 c37 c38 c39 c40 c41 c42 c43 c44 c45 c46 c47 c48 c49 c50 c51 c52 c53 c54 c55 c56 c57 c58 c59 c60 c61 c62 c63 c64 c65 c66 c67 c68 c69 c70 c71 c72 c73 c74 c75 c76 c77 c78 c79 c80 c81 c82 c83 c84 c85 c86 c87 c88 c89 c90 c91 c92 c93 c94 c95 c96 c97 c98 c99 c100 c101 c102 c103 c104 c105 c106 c107 c108 c109 c110 c111 c112 c113 c114 c115 c116 c117 c118 c119 c120 c121 c122 c123 c124 c125 c126 c127 c128 c129 c130 c131 c132 c133 c134 c135 c136 c137 c138 c139 c140 c141 c142 c143 c144 c145 c146 c147 c148 c149 c150 c151 c152 c153 c154 c155 c156 c157 c158 c159 c160 c161 c162 c163 c164 c165 c166 c167 c168 c169 : Value} :
    Code.wp Ybaf.prog (dropSeq 8 (Ybaf.f4.body.getD .skip)) (bodyPost Ybaf.prog Ybaf.f4 (fun e w' => e = .returned (.bool true) ∧ Below w0.heap.size w0 w')) ⟨#[c0, c1, .slice a len cap, c3, c4, c5, c6, c7, .pointer (some ⟨C.a 0, 0, none⟩), .pointer (some ⟨C.a 1, 0, none⟩), c10, .slice pL nL capL, c12, c13, c14, c15, c16, c17, c18, c19, c20, c21, c22, c23, c24, c25, c26, c27, c28, c29, c30, c31, c32, c33, c34, c35, c36, c37, c38, c39, c40, c41, c42, c43, c44, c45, c46, c47, c48, c49, c50, c51, c52, c53, c54, c55, c56, c57, c58, c59, c60, c61, c62, c63, c64, c65, c66, c67, c68, c69, c70, c71, c72, c73, c74, c75, c76, c77, c78, c79, c80, c81, c82, c83, c84, c85, c86, c87, c88, c89, c90, c91, c92, c93, c94, c95, c96, c97, c98, c99, c100, c101, c102, c103, c104, c105, c106, c107, c108, c109, c110, c111, c112, c113, c114, c115, c116, c117, c118, c119, c120, c121, c122, c123, c124, c125, c126, c127, c128, c129, c130, c131, c132, c133, c134, c135, c136, c137, c138, c139, c140, c141, c142, c143, c144, c145, c146, c147, c148, c149, c150, c151, c152, c153, c154, c155, c156, c157, c158, c159, c160, c161, c162, c163, c164, c165, c166, c167, c168, c169], []⟩ w := by
  obtain ⟨C', Q, ea, e1, e2, D, hrow, hJ⟩ := hK.start F
  rw [← ea 0, ← ea 1]
  have hself' : C'.self ≠ C'.seq := by rw [e1, e2]; exact hself
  clear hself hK F ea e1 e2
  generalize hhb : w.heap.size = hb at *
  have HST := hide hst
  have HJ := hide hJ
  have HL3 := hide hL3
  have HROW := hide hrow
  have HN := hide hn
  have HSF := hide hself'
  have HHB := hide hhb
  clear hst hJ hL3 hrow hn hself' hhb
  have e8 : dropSeq 8 (Ybaf.f4.body.getD .skip) = graft 4 (dropSeq 8 (Ybaf.f4.body.getD .skip)) (dropSeq 12 (Ybaf.f4.body.getD .skip)) := (graft_drop 4 (dropSeq 8 (Ybaf.f4.body.getD .skip))).symm
  rw [e8]
  generalize hR : dropSeq 12 (Ybaf.f4.body.getD .skip) = R
  have HR := hide hR
  clear hR e8
  conv => arg 2; arg 2; whnf
  simp only [graft]
  have hmm : (Instr.makeMap 31 none).run Ybaf.prog w = .ok (.map (some hb)) (w.alloc (.map #[] 0)) := by rw [← HHB.out]; exact Ybaf.mk31 w
  go_wp2
  clear hmm
  go_loopw [84, 17, 18] (fun i vD vd wr => ∃ k : Nat, k ≤ len ∧ i = .int .i64 k ∧ ∃ p dw, vd = .int .i64 (p.dv : Int) ∧ p.dv ≤ L.length ∧ p.D.length = p.dv ∧ J w0 wr C' (dlvd (stF L k) L p dw) hb pb Q (mdF p k vD (fun t => L.count t))) (fun i _ _ _ => len - (intOf i).toNat)
  case atStart => exact ⟨0, Nat.zero_le _, rfl, dlv0, .slice none 0 0, rfl, Nat.zero_le _, rfl, HJ.out⟩
  case round =>
    obtain ⟨k, hk, rfl, p, dw, rfl, hdv, hDl, hj⟩ := hrel
    clear HJ
    have HDV := hide hdv
    have HDL := hide hDl
    clear hdv hDl
    by_cases hlt : k < len
    · obtain ⟨b, o, rfl, cs0, cs1, x0, x1, y0, y1⟩ := HST.out k hlt
      have lb : b < w0.heap.size := World.block_lt_of_cell? w0 _ cs0
      have hkw := hj.kw
      have bw := hkw.below (Nat.le_refl _) (fun _ h => h)
      have d0 : wr.cell? ⟨b, o + k * 2, none⟩ = some (.int .u8 (xs k)) := (bw.cell (p := ⟨b, o + k * 2, none⟩) lb).trans cs0
      have d1 : wr.cell? ⟨b, o + k * 2 + 1, none⟩ = some (.int .u8 (ns k)) := (bw.cell (p := ⟨b, o + k * 2 + 1, none⟩) lb).trans cs1
      have k0 : (k : Int) < (len : Int) := by omega
      obtain ⟨s, hs⟩ : ∃ s : Nat, xs k % 3 = (s : Int) := ⟨(xs k % 3).toNat, by omega⟩
      obtain ⟨m, hm⟩ : ∃ m : Nat, ns k % 8 = (m : Int) := ⟨(ns k % 8).toNat, by omega⟩
      have s3 : s < 3 := by omega
      have m7 : m ≤ 7 := by omega
      have hnhm : k < maxLen := by unfold maxLen; omega
      obtain ⟨w3, hrun3, j0, j1, J3, lw⟩ := fol_store D hj s3 (show m < 18446744073709551616 by omega) hnhm (xs k) (ns k)
      simp only [idV] at hrun3
      have J4 := (J3 w3.heap.size).alloc D (.cells #[.int .u8 ((k : Int) % 256), .int .u8 ((k : Int) / 256)] 5)
      have hb4 : C'.base ≤ w3.heap.size := (J3 0).S.hbase
      have hbk : (w3.alloc (.cells #[.int .u8 ((k : Int) % 256), .int .u8 ((k : Int) / 256)] 5)).heap[w3.heap.size]? = some (.cells #[.int .u8 ((k % 256 : Nat) : Int), .int .u8 ((k / 256 : Nat) : Int)] 5) := (heap_alloc_new w3 _).trans (by simp)
      have HJ4 := hide J4
      have HBK := hide hbk
      clear cs0 cs1 hkw bw hj J3 J4 hbk
      generalize hB4 : Code.block 4 _ = B4
      have HB4 := hide hB4
      clear hB4
      go_wp2_with (go_at_call 6; refine (keep_other C' D.O (stF L k) L p dw s m w3.heap.size k _ s3 m7 rfl HL3.out (by omega) HDV.out (by have := HDV.out; rw [HDL.out]; omega) (by show k ≤ _; omega) HJ4.out.S HBK.out hb4 (by omega) (.inl HSF.out)).mono ?_; rintro e w5 ⟨rfl, dw', S5, K5, M5⟩; have HJ5 := hide (HJ4.out.called D S5 K5 M5); clear S5 K5 M5)
      clear hrun3 j0 j1 lw d0 d1 HJ4 HBK hb4
      rw [← HB4.out]
      clear HB4
      obtain ⟨g1, g2⟩ := run_good L (L.length - p.dv) (p.put s m w3.heap.size k) HDV.out HDL.out
      have HG1 := hide g1
      have HG2 := hide g2
      clear g1 g2
      refine Code.wp_mono ?_ (show Code.wp Ybaf.prog inner4 _ _ _ from fol_inner w0 w5 C' _ hb pb Q D L (p.put s m w3.heap.size k) (k + 1) (fun t => L.count t) u17 pL nL capL C.base HL3.out HN.out hlen HDV.out HDL.out (fun w' hw' => by have h := HROW.out w' hw'; rw [← HN.out] at h; exact h) HJ5.out)
      rintro e a2 w6 ⟨rfl, vD', d25, d26, d114, d115, d116, d117, d118, d119, d120, d121, d122, d123, d124, d125, d126, d127, d128, d129, d130, d131, d132, d133, d134, d135, d136, d137, d138, d139, d140, d141, d142, d143, d144, d145, rfl, J6⟩
      have HJ6 := hide J6
      clear J6
      go_wp2
      go_roundw
      case rel => exact ⟨k + 1, by omega, by go_num, _, dw', rfl, HG1.out, HG2.out, HJ6.out⟩
      case measure => simp [intOf]; omega
    · have hkl : k = len := by omega
      subst hkl
      have HJr := hide hj
      clear hj
      go_wp2_with fail
      rw [← HR.out]
      exact fol_end w0 wr C' _ hb pb Q D L p _ _ dw _ rfl (by have := HDV.out; omega) HDL.out HJr.out
end Go.Proofs.YbulkanjaFmt.Tot
