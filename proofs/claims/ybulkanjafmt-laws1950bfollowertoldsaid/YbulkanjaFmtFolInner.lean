/-
  THE MODEL's INNER LOOP at a follower (LawS1950BFollower's loop 3).
-/
import Derived.Test.YbulkanjaFmtSeqEnd
namespace Go.Proofs.YbulkanjaFmt.Tot
open Go.RowKit Go.Maps Go.Proofs.YbulkanjaFmt.MapsF

/-- The body of the law's loop over the steps. -/
noncomputable def round4 : Code := ofBlock (headSeq (dropSeq 2 (ofLoop (ofBlock (dropSeq 1 (headSeq (dropSeq 11 (Ybaf.f4.body.getD .skip))))))))
noncomputable def inner4 : Code := dropSeq 6 round4

/-- The follower's model behind the delivery p. -/
def mdF (p : Dlv) (n : Nat) (vD : Value) (pf : Nat → Nat) : Md := ⟨mod p.hv, n, pf, .slice none 0 0, 0, [], vD, p.D.length, dlx p.D⟩

/-- The id of place k + 1, in the list. -/
theorem id_at {w : World} {base n cap : Nat} {pE : Option Addr} (L : List Nat) (hn : n = L.length) (h : w.ownsRow base 38 2 (.slice pE n cap) n (ids L)) (k : Nat) (hk : k < n) :
    ∃ g, pE = some ⟨g, 0, none⟩ ∧ w.cell? ⟨g, k * 2, none⟩ = some (.int .i64 (L.getD k 0 : Int)) ∧ w.cell? ⟨g, k * 2 + 1, none⟩ = some (.int .u64 (num L k : Int)) := by
  subst hn
  obtain ⟨_, ⟨_, h0⟩ | ⟨g, cap', cur', e', _, _⟩⟩ := id h
  · omega
  cases e'
  obtain ⟨i1, i2⟩ := ids_at L k hk
  exact ⟨g, rfl, (h.cellAt (k * 2) (by omega)).trans i1, (h.cellAt (k * 2 + 1) (by omega)).trans i2⟩

theorem run_good (L : List Nat) : ∀ n p, p.dv ≤ L.length → p.D.length = p.dv → (Dlv.run L n p).dv ≤ L.length ∧ (Dlv.run L n p).D.length = (Dlv.run L n p).dv := by
  intro n
  induction n with
  | zero => intro p h1 h2; exact ⟨h1, h2⟩
  | succ n ih =>
    intro p h1 h2
    cases hn : p.next L with
    | none => simp only [Dlv.run, hn]; exact ⟨h1, h2⟩
    | some p' =>
      simp only [Dlv.run, hn]
      unfold Dlv.next at hn
      cases hb : L[p.dv]? with
      | none => simp [hb] at hn
      | some s =>
        have hlt : p.dv < L.length := (List.getElem?_eq_some_iff.1 hb).1
        cases hv : p.hv s (num L p.dv) with
        | none => simp [hb, hv] at hn
        | some q =>
          simp [hb, hv] at hn
          subst hn
          exact ih _ hlt (by simp [h2])

/-- Behind the append to expD: the list is as it was; 'delete(held, list[d])'. -/
theorem fol_mid {w0 wr w4 : World} {C : Cfg} {x : St} {hb pb : Nat} {Q : Nat → Obj → Prop} {y : Md} {s m nD g2 cap2 d nL capL B i gl : Nat} {xs : List Value} {L : List Nat} (D : Side C w0.heap.size hb pb Q) (hs : s < 3) (hm : m < 18446744073709551616)
    (hJ : J w0 (wr.alloc (.cells #[.int .i64 (s : Int), .int .i64 (i : Int)] 46)) C x hb pb Q y) (hown : w4.ownsRow C.base 46 2 (.slice (some ⟨g2, 0, none⟩) (nD + 1) cap2) (nD + 1) xs) (hgrow : (wr.alloc (.cells #[.int .i64 (s : Int), .int .i64 (i : Int)] 46)).grownBy w4 y.vD.ownBlock) (hat : y.vD.ownBlock = some g2 ∨ g2 = wr.heap.size + 1)
    (hrow : ∀ w' : World, (∀ k o, Q k o → w'.heap[k]? = some o) → w'.ownsRow B 38 2 (.slice (some ⟨gl, 0, none⟩) nL capL) nL (ids L)) (hn : nL = L.length) (hd : d < nL) (ca : wr.cell? ⟨gl, d * 2, none⟩ = some (.int .i64 (s : Int))) (cb : wr.cell? ⟨gl, d * 2 + 1, none⟩ = some (.int .u64 (m : Int))) :
    w4.cell? ⟨gl, d * 2, none⟩ = some (.int .i64 (s : Int)) ∧ w4.cell? ⟨gl, d * 2 + 1, none⟩ = some (.int .u64 (m : Int)) ∧ ∃ w5, (Builtin.delete_ #[31, 38] 0 #[.map (some hb), idV s m]).run Ybaf.prog w4 = .ok (.tuple #[]) w5 ∧
      J w0 w5 C x hb pb Q { ({ y with vD := .slice (some ⟨g2, 0, none⟩) (nD + 1) cap2, nD := nD + 1, xD := xs } : Md) with hm := updM y.hm s m none } := by
  have J2 := hJ.growD D hgrow hown (hat.imp Eq.symm (fun e k hk => by simp [Value.ownBlock] at hk; simp; omega))
  obtain ⟨w5, hrun, hm5, ht5⟩ := J2.mh.drop s m hs hm 0
  have r0 := hrow _ hJ.q
  have r4 := hrow _ J2.q
  obtain ⟨g', e', a1, a2⟩ := id_at L hn r0 d hd
  obtain ⟨g'', e'', b1, b2⟩ := id_at L hn r4 d hd
  cases e'
  cases e''
  have lg : gl < wr.heap.size := World.block_lt_of_cell? wr _ ca
  rw [World.cell?_alloc_past _ _ _ lg] at a1 a2
  refine ⟨b1.trans (a1.symm.trans ca), b2.trans (a2.symm.trans cb), w5, hrun, J2.turn D ht5 hm5⟩

set_option maxRecDepth 100000 in
set_option maxHeartbeats 3200000 in
theorem fol_inner (w0 w : World) (C : Cfg) (x : St) (hb pb : Nat) (Q : Nat → Obj → Prop) (D : Side C w0.heap.size hb pb Q) (L : List Nat) (p : Dlv) (n : Nat) (pf : Nat → Nat) (vD : Value) (pL : Option Addr) (nL capL B : Nat) (hL3 : ∀ s ∈ L, s < 3) (hn : nL = L.length) (hlen : L.length ≤ 1024) (hdv : p.dv ≤ L.length) (hDl : p.D.length = p.dv)
    (hrow : ∀ w' : World, (∀ k o, Q k o → w'.heap[k]? = some o) → w'.ownsRow B 38 2 (.slice pL nL capL) nL (ids L)) (hJ : J w0 w C x hb pb Q (mdF p n vD pf)) {c0 c1 c2 c3 c4 c5 c6 c7 c8 c9 c10 c12 c13 c14 c15 c19 c20 c21 c22 c23 c24 c25 c26 c27 c28 c29 c30 c31 c32 c33 c34 c35 c36 c37 c38 c39 c40 c41 c42 c43 c44 c45 c46 c47 c48 c49 c50 c51 c52 c53 c54 c55 c56 c57 c58 c59 c60 c61 c62 c63 c64 c65 c66 c67 c68 c69 c70 c71 c72 c73 c74 c75 c76 c77 c78 c79 c80 c81 c82 c83 c84 c85 c86 c87 c88 c89 c90 c91 c92 c93 c94 c95 c96 c97 c98 c99 c100 c101 c102 c103 c104 c105 c106 c107 c108 c109 c110 c111 c112 c113 c114 c115 c116 c117 c118 c119 c120 c121 c122 c123 c124 c125 c126 c127 c128 c129 c130 c131 c132 c133 c134 c135 c136 c137 c138 c139 c140 c141 c142 c143 c144 c145 c146 c147 c148 c149 c150 c151 c152 c153 c154 c155 c156 c157 c158 c159 c160 c161 c162 c163 c164 c165 c166 c167 c168 c169 : Value} :
    Code.wp Ybaf.prog inner4 (fun e a2 w2 => e = .normal ∧ ∃ vD' d25 d26 d114 d115 d116 d117 d118 d119 d120 d121 d122 d123 d124 d125 d126 d127 d128 d129 d130 d131 d132 d133 d134 d135 d136 d137 d138 d139 d140 d141 d142 d143 d144 d145, a2 = ⟨#[c0, c1, c2, c3, c4, c5, c6, c7, c8, c9, c10, .slice pL nL capL, c12, c13, c14, c15, .map (some hb), vD', .int .i64 ((Dlv.run L (L.length - p.dv) p).dv : Int), c19, c20, c21, c22, c23, c24, d25, d26, c27, c28, c29, c30, c31, c32, c33, c34, c35, c36, c37, c38, c39, c40, c41, c42, c43, c44, c45, c46, c47, c48, c49, c50, c51, c52, c53, c54, c55, c56, c57, c58, c59, c60, c61, c62, c63, c64, c65, c66, c67, c68, c69, c70, c71, c72, c73, c74, c75, c76, c77, c78, c79, c80, c81, c82, c83, c84, c85, c86, c87, c88, c89, c90, c91, c92, c93, c94, c95, c96, c97, c98, c99, c100, c101, c102, c103, c104, c105, c106, c107, c108, c109, c110, c111, c112, c113, d114, d115, d116, d117, d118, d119, d120, d121, d122, d123, d124, d125, d126, d127, d128, d129, d130, d131, d132, d133, d134, d135, d136, d137, d138, d139, d140, d141, d142, d143, d144, d145, c146, c147, c148, c149, c150, c151, c152, c153, c154, c155, c156, c157, c158, c159, c160, c161, c162, c163, c164, c165, c166, c167, c168, c169], []⟩ ∧ J w0 w2 C x hb pb Q (mdF (Dlv.run L (L.length - p.dv) p) n vD' pf)) ⟨#[c0, c1, c2, c3, c4, c5, c6, c7, c8, c9, c10, .slice pL nL capL, c12, c13, c14, c15, .map (some hb), vD, .int .i64 (p.dv : Int), c19, c20, c21, c22, c23, c24, c25, c26, c27, c28, c29, c30, c31, c32, c33, c34, c35, c36, c37, c38, c39, c40, c41, c42, c43, c44, c45, c46, c47, c48, c49, c50, c51, c52, c53, c54, c55, c56, c57, c58, c59, c60, c61, c62, c63, c64, c65, c66, c67, c68, c69, c70, c71, c72, c73, c74, c75, c76, c77, c78, c79, c80, c81, c82, c83, c84, c85, c86, c87, c88, c89, c90, c91, c92, c93, c94, c95, c96, c97, c98, c99, c100, c101, c102, c103, c104, c105, c106, c107, c108, c109, c110, c111, c112, c113, c114, c115, c116, c117, c118, c119, c120, c121, c122, c123, c124, c125, c126, c127, c128, c129, c130, c131, c132, c133, c134, c135, c136, c137, c138, c139, c140, c141, c142, c143, c144, c145, c146, c147, c148, c149, c150, c151, c152, c153, c154, c155, c156, c157, c158, c159, c160, c161, c162, c163, c164, c165, c166, c167, c168, c169], []⟩ w := by
  obtain ⟨i46, hi46, z46a, z46b, z46c⟩ := info_parts Ybaf.info46
  have HL3 := hide hL3
  have HN := hide hn
  have HJ := hide hJ
  have HROW := hide hrow
  have hnL : nL ≤ 1024 := by omega
  have HDL := hide hDl
  have HDV := hide hdv
  clear hL3 hJ hrow hDl hdv
  have hn' : L.length = nL := hn.symm
  have HN' := hide hn'
  clear hn hn' hlen
  conv => arg 2; whnf
  go_wp2
  go_loopg [17, 18] (nL + 1) (fun gk vD' vd wr => ∃ q : Dlv, vd = .int .i64 (q.dv : Int) ∧ gk + q.dv = nL + 1 + p.dv ∧ q.dv ≤ nL ∧ q.D.length = q.dv ∧ J w0 wr C x hb pb Q (mdF q n vD' pf) ∧ Dlv.run L (L.length - q.dv) q = Dlv.run L (L.length - p.dv) p)
  case atStart => exact ⟨p, rfl, by omega, by have := HDV.out; have := HN'.out; omega, HDL.out, HJ.out, rfl⟩
  case round =>
    obtain ⟨q, rfl, hgk, hql, hqD, hj, hrun⟩ := hrel
    have HGK := hide hgk
    have HRUN := hide hrun
    have HQD := hide hqD
    clear hgk hrun hqD HJ
    obtain ⟨d, hd⟩ : ∃ d, d = q.dv := ⟨_, rfl⟩
    rw [← hd] at hql
    have HD := hide hd
    have lh : hb < wr.heap.size := hj.mh.lt
    have d1024 : (d : Int) ≤ 1024 := by omega
    have d0 : (0 : Int) ≤ (d : Int) := by omega
    rw [← hd]
    clear hd
    by_cases hdl : d < nL
    · obtain ⟨gl, rfl, cLa, cLb⟩ := id_at L HN.out (HROW.out wr hj.q) d hdl
      have d2 : (d : Int) < (nL : Int) := by omega
      have hget : L[d]? = some (L.getD d 0) := by
        have : d < L.length := by have := HN'.out; omega
        simp [List.getD, List.getElem?_eq_getElem this]
      obtain ⟨s, hs⟩ : ∃ s, s = L.getD d 0 := ⟨_, rfl⟩
      obtain ⟨m, hm⟩ : ∃ m, m = num L d := ⟨_, rfl⟩
      rw [← hs] at cLa hget
      rw [← hm] at cLb
      have s3 : s < 3 := HL3.out s (List.mem_of_getElem? hget)
      have m64 : m < 18446744073709551616 := by
        have h1 : m ≤ (L.take (d + 1)).length := by rw [hm]; exact List.count_le_length
        have h2 : (L.take (d + 1)).length ≤ L.length := by simp; omega
        have := HN'.out
        omega
      have lgl : gl < wr.heap.size := World.block_lt_of_cell? wr _ cLa
      have hlk := hj.mh.look s m s3 m64
      have HGET := hide hget
      have HM := hide hm
      have HJr := hide hj
      clear hget hm hs hj
      cases hv : q.hv s m with
      | none =>
        rw [show ((mdF q n _ pf).hm s m) = none from by show mod _ s m = _; rw [mod, hv]; rfl] at hlk
        simp only [Option.getD_none, Option.isSome_none, idV] at hlk
        have HV := hide hv
        clear hv
        have e : Dlv.run L (L.length - p.dv) p = q := by
          rw [← HRUN.out]
          refine run_end L q _ ?_
          simp [Dlv.next, ← HD.out, HGET.out, ← HM.out, HV.out]
        have HE := hide e
        clear e
        go_wp2
        rw [HE.out]
        exact ⟨_, ⟨rfl, by rw [HD.out]⟩, HJr.out⟩
      | some bi =>
        obtain ⟨bb, i⟩ := bi
        rw [show ((mdF q n _ pf).hm s m) = some (.int .i64 (i : Int)) from by show mod _ s m = _; rw [mod, hv]; rfl] at hlk
        simp only [Option.getD_some, Option.isSome_some, idV] at hlk
        have HV := hide hv
        clear hv
        obtain ⟨nD, hnD⟩ : ∃ nD, nD = q.D.length := ⟨_, rfl⟩
        have hnD2 : nD ≤ 1024 := by have h1 := HQD.out; have h2 := HD.out; omega
        have J1 := HJr.out.alloc D (.cells #[.int .i64 (s : Int), .int .i64 (i : Int)] 46)
        have HOD : Hid ((wr.alloc (.cells #[.int .i64 (s : Int), .int .i64 (i : Int)] 46)).ownsRow C.base 46 2 u17 nD (dlx q.D)) := hide (by rw [hnD]; exact J1.oD)
        have HNW := hide (news_dl _ _ _ _ (heap_alloc_new wr (.cells #[.int .i64 (s : Int), .int .i64 (i : Int)] 46)))
        have hbase : C.base ≤ wr.heap.size := HJr.out.S.hbase
        have HJ1 := hide J1
        have HND := hide hnD
        clear J1 hnD
        go_wp2_with (refine wpList_append_lies _ (by rfl) _ _ _ (by rfl) C.base 46 i46 _ 2 16 Ybaf.underlying26 hi46 z46a z46b z46c rfl (by omega) u17 nD _ (by rfl) HOD.out ⟨wr.heap.size, 0, none⟩ 1 1 [.int .i64 (s : Int), .int .i64 (i : Int)] (by rfl) (by rfl) HNW.out (by simp [Value.oneCell']) (by omega) (by unfold maxLen; omega) (by omega) (by simp; omega) (wr.heap.size + 1) (by simp) ?_; intro g2 cap2 w4 hown4 hgrow4 hat4 hlt4; obtain ⟨eLa, eLb, w5, hrun5, J5⟩ := fol_mid D s3 m64 HJ1.out hown4 hgrow4 hat4 HROW.out HN.out (show d < nL by omega) cLa cLb; simp only [idV] at hrun5; have HJ5 := hide J5; clear J5 hgrow4 hat4 hown4 hlt4)
        have hq : q.next L = some ⟨q.dv + 1, updF q.hv s (updF (q.hv s) m none), q.D ++ [(s, i)]⟩ := by
          simp [Dlv.next, ← HD.out, HGET.out, ← HM.out, HV.out]
        go_roundg (nL + p.dv - d)
        case measure => have h1 := HGK.out; have h2 := HD.out; omega
        case rel =>
          refine ⟨⟨q.dv + 1, updF q.hv s (updF (q.hv s) m none), q.D ++ [(s, i)]⟩, ?_, ?_, ?_, ?_, ?_, ?_⟩
          · have h2 := HD.out
            show _ = Value.int .i64 ((q.dv + 1 : Nat) : Int)
            rw [← h2]
            go_num
          · have h1 := HGK.out; have h2 := HD.out; show _ + (q.dv + 1) = _; omega
          · have h2 := HD.out; show q.dv + 1 ≤ _; omega
          · have h1 := HQD.out; simp [h1]
          · have h := HJ5.out
            rw [HND.out] at h
            rw [HND.out]
            have e : (mdF ⟨q.dv + 1, updF q.hv s (updF (q.hv s) m none), q.D ++ [(s, i)]⟩ n (.slice (some ⟨g2, 0, none⟩) (q.D.length + 1) cap2) pf) = { ({ mdF q n u17 pf with vD := .slice (some ⟨g2, 0, none⟩) (q.D.length + 1) cap2, nD := q.D.length + 1, xD := dlx q.D ++ [.int .i64 (s : Int), .int .i64 (i : Int)] } : Md) with hm := updM (mod q.hv) s m none } := by
              simp only [mdF]
              rw [mod_drop, dlx_snoc]
              simp
            rw [e]
            exact h
          · rw [← HRUN.out]
            exact (run_step L q _ hq rfl (by have h1 := HN'.out; have h2 := HD.out; omega)).symm
    · have hdn : d = nL := by omega
      have d2 : ¬ ((d : Int) < (nL : Int)) := by omega
      have HJr := hide hj
      have e : Dlv.run L (L.length - p.dv) p = q := by
        rw [← HRUN.out]
        refine run_end L q _ ?_
        have : L[q.dv]? = none := List.getElem?_eq_none (by have h1 := HN'.out; have h2 := HD.out; omega)
        simp [Dlv.next, this]
      have HE := hide e
      have HDN := hide hdn
      clear e hdn hj
      go_wp2
      rw [HE.out]
      exact ⟨_, ⟨rfl, by rw [HD.out]⟩, HJr.out⟩
end Go.Proofs.YbulkanjaFmt.Tot
