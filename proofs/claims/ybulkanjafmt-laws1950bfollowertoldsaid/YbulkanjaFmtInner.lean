/-
  THE MODEL's INNER LOOP at the sequencer (LawS1950BSequencer's loop 2).
-/
import Derived.Test.YbulkanjaFmtMod
namespace Go.Proofs.YbulkanjaFmt.Tot
open Go.RowKit Go.Maps Go.Proofs.YbulkanjaFmt.MapsF

def headSeq : Code → Code
  | .seq x _ => x
  | c => c
def ofBlock : Code → Code
  | .block _ c => c
  | c => c
def ofLoop : Code → Code
  | .loop c => c
  | c => c
def ofThen : Code → Code
  | .cond _ x _ => x
  | c => c
/-- The body of the law's loop over the steps. -/
noncomputable def round3 : Code := ofBlock (headSeq (dropSeq 2 (ofLoop (ofBlock (dropSeq 1 (headSeq (dropSeq 9 (Ybaf.f3.body.getD .skip))))))))
noncomputable def inner3 : Code := ofThen (dropSeq 7 round3)

/-- The model behind the placing of L, the delivery p. -/
def md (L : List Nat) (p : Dlv) (n : Nat) (vB vD : Value) : Md := ⟨mod p.hv, n, fun t => L.count t, vB, L.length, ids L, vD, p.D.length, dlx p.D⟩

theorem md_step (L : List Nat) (s c : Nat) (p : Dlv) (j n q i bb : Nat) (vB vD vB' vD' : Value) (hc : c = L.count s) (hq : q = c + 1 + j) (he : (sq s c p j).hv s (c + 1 + j) = some (bb, i)) :
    ({ ({ ({ ({ md (L ++ List.replicate j s) (sq s c p j) n vB vD with pf := updF (fun t => (L ++ List.replicate j s).count t) s q } : Md) with vB := vB', nB := (L ++ List.replicate j s).length + 1, xB := ids (L ++ List.replicate j s) ++ [.int .i64 (s : Int), .int .u64 (q : Int)] } : Md) with hm := updM (mod (sq s c p j).hv) s q none, nh := n } : Md) with vD := vD', nD := (sq s c p j).D.length + 1, xD := dlx (sq s c p j).D ++ [.int .i64 (s : Int), .int .i64 (i : Int)] } : Md)
      = md (L ++ List.replicate (j + 1) s) (sq s c p (j + 1)) n vB' vD' := by
  have e : L ++ List.replicate (j + 1) s = (L ++ List.replicate j s) ++ [s] := by rw [List.replicate_succ', List.append_assoc]
  have hq' : q = (L ++ List.replicate j s).count s + 1 := by rw [List.count_append, List.count_replicate_self]; omega
  have e2 : sq s c p (j + 1) = ⟨(sq s c p j).dv + 1, updF (sq s c p j).hv s (updF ((sq s c p j).hv s) (c + 1 + j) none), (sq s c p j).D ++ [(s, i)]⟩ := by simp [sq, he]
  simp only [md]
  rw [e, e2, cnt_snoc _ s q hq', ids_snoc _ s q hq', mod_drop, dlx_snoc, hq]
  simp [Nat.add_assoc]

theorem news_id (w : World) (b : Nat) (x y : Value) (h : w.heap[b]? = some (.cells #[x, y] 38)) : ∀ j u, ([x, y] : List Value)[j]? = some u → w.cell? ((⟨b, 0, none⟩ : Addr).add j) = some u :=
  World.news_of_block (cs := #[x, y]) (t := 38) (fr := (0, 0)) h

/-- Between the two appends. -/
theorem in_mid {w0 wr w4 : World} {C : Cfg} {x : St} {hb pb : Nat} {Q : Nat → Obj → Prop} {y : Md} {s q m n gg cap : Nat} {xs : List Value} (D : Side C w0.heap.size hb pb Q) (hs : s < 3) (hq : q < 18446744073709551616) (hown : w4.ownsRow C.base 38 2 (.slice (some ⟨gg, 0, none⟩) m cap) n xs)
    (hgrow : (((wr.setCell ⟨pb, s, none⟩ (.int .u64 (q : Int))).alloc (.cells #[.int .i64 (s : Int), .int .u64 (q : Int)] 38)).alloc (.cells #[.int .i64 (s : Int), .int .u64 (q : Int)] 38)).grownBy w4 y.vB.ownBlock)
    (hJ : J w0 (((wr.setCell ⟨pb, s, none⟩ (.int .u64 (q : Int))).alloc (.cells #[.int .i64 (s : Int), .int .u64 (q : Int)] 38)).alloc (.cells #[.int .i64 (s : Int), .int .u64 (q : Int)] 38)) C x hb pb Q y) (hoB : wr.ownsRow C.base 38 2 y.vB y.nB y.xB) :
    w4.cell? ⟨wr.heap.size, 0, none⟩ = some (.int .i64 (s : Int)) ∧ w4.cell? ⟨wr.heap.size, 1, none⟩ = some (.int .u64 (q : Int)) ∧ ∃ w5, (Builtin.delete_ #[31, 38] 0 #[.map (some hb), idV s q]).run Ybaf.prog w4 = .ok (.tuple #[]) w5 ∧
      J w0 w5 C x hb pb Q { ({ y with vB := .slice (some ⟨gg, 0, none⟩) m cap, nB := n, xB := xs } : Md) with hm := updM y.hm s q none } := by
  have hsz : (wr.setCell ⟨pb, s, none⟩ (.int .u64 (q : Int))).heap.size = wr.heap.size := by simp [World.setCell]
  have hne : some wr.heap.size ≠ y.vB.ownBlock := own_new hoB
  have J4 := hJ.growB D hgrow hown
  obtain ⟨w5, hrun, hm5, ht5⟩ := J4.mh.drop s q hs hq 0
  refine ⟨?_, ?_, w5, hrun, J4.turn D ht5 hm5⟩
  · rw [hgrow.cell_far ⟨wr.heap.size, 0, none⟩ (by simp [hsz]; omega) hne, World.cell?_alloc_past _ _ _ (by simp [hsz])]
    exact World.cell?_alloc_at _ _ _ _ hsz.symm
  · rw [hgrow.cell_far ⟨wr.heap.size, 1, none⟩ (by simp [hsz]; omega) hne, World.cell?_alloc_past _ _ _ (by simp [hsz])]
    exact World.cell?_alloc_at _ _ _ _ hsz.symm

set_option maxRecDepth 100000 in
set_option maxHeartbeats 3200000 in
theorem seq_inner (w0 w : World) (C : Cfg) (x : St) (hb pb : Nat) (Q : Nat → Obj → Prop) (D : Side C w0.heap.size hb pb Q) (L : List Nat) (p : Dlv) (n s c k : Nat) (vB vD : Value) (hs : s < 3) (hc : c = L.count s) (hck : c + k ≤ 5) (hlen : L.length ≤ 2000) (hDl : p.D.length ≤ 2000)
    (hall : ∀ j, j < k → (p.hv s (c + 1 + j)).isSome = true) (hno : p.hv s (c + 1 + k) = none) (hJ : J w0 w C x hb pb Q (md L p n vB vD)) {c0 c1 c2 c3 c4 c5 c6 c7 c8 c9 c10 c11 c16 c17 c19 c20 c21 c22 c23 c24 c25 c26 c27 c28 c29 c30 c31 c32 c33 c34 c35 c36 c37 c38 c39 c40 c41 c42 c43 c44 c45 c46 c47 c48 c49 c50 c51 c52 c53 c54 c55 c56 c57 c58 c59 c60 c61 c62 c63 c64 c65 c66 c67 c68 c69 c70 c71 c72 c73 c74 c75 c76 c77 c78 c79 c80 c81 c82 c83 c84 c85 c86 c87 c88 c89 c90 c91 c92 c93 c94 c95 c96 c97 c98 c99 c100 c101 c102 c103 c104 c105 c106 c107 c108 c109 c110 c111 c112 c113 c114 c115 c116 c117 c118 c119 c120 c121 c122 c123 c124 c125 c126 c127 c128 c129 c130 c131 c132 c133 c134 c135 c136 c137 c138 c139 c140 c141 c142 c143 c144 c145 c146 c147 c148 c149 c150 c151 c152 c153 c154 c155 c156 c157 c158 c159 c160 c161 c162 c163 c164 c165 c166 c167 c168 c169 c170 c171 c172 c173 c174 c175 c176 c177 c178 c179 c180 c181 c182 c183 c184 : Value} :
    Code.wp Ybaf.prog inner3 (fun e a2 w2 => e = .normal ∧ ∃ vB' vD' d22 d23 d24 d82 d83 d84 d85 d86 d87 d88 d89 d90 d91 d92 d93 d94 d95 d96 d97 d98 d99 d100 d101 d102 d103 d104 d105 d106 d107 d108 d109 d110 d111 d112 d113 d114 d115, a2 = ⟨#[c0, c1, c2, c3, c4, c5, c6, c7, c8, c9, c10, c11, .map (some hb), .pointer (some ⟨pb, 0, none⟩), vB', vD', c16, c17, .int .i64 (s : Int), c19, c20, c21, d22, d23, d24, c25, c26, c27, c28, c29, c30, c31, c32, c33, c34, c35, c36, c37, c38, c39, c40, c41, c42, c43, c44, c45, c46, c47, c48, c49, c50, c51, c52, c53, c54, c55, c56, c57, c58, c59, c60, c61, c62, c63, c64, c65, c66, c67, c68, c69, c70, c71, c72, c73, c74, c75, c76, c77, c78, c79, c80, c81, d82, d83, d84, d85, d86, d87, d88, d89, d90, d91, d92, d93, d94, d95, d96, d97, d98, d99, d100, d101, d102, d103, d104, d105, d106, d107, d108, d109, d110, d111, d112, d113, d114, d115, c116, c117, c118, c119, c120, c121, c122, c123, c124, c125, c126, c127, c128, c129, c130, c131, c132, c133, c134, c135, c136, c137, c138, c139, c140, c141, c142, c143, c144, c145, c146, c147, c148, c149, c150, c151, c152, c153, c154, c155, c156, c157, c158, c159, c160, c161, c162, c163, c164, c165, c166, c167, c168, c169, c170, c171, c172, c173, c174, c175, c176, c177, c178, c179, c180, c181, c182, c183, c184], []⟩ ∧ J w0 w2 C x hb pb Q (md (L ++ List.replicate k s) (sq s c p k) n vB' vD')) ⟨#[c0, c1, c2, c3, c4, c5, c6, c7, c8, c9, c10, c11, .map (some hb), .pointer (some ⟨pb, 0, none⟩), vB, vD, c16, c17, .int .i64 (s : Int), c19, c20, c21, c22, c23, c24, c25, c26, c27, c28, c29, c30, c31, c32, c33, c34, c35, c36, c37, c38, c39, c40, c41, c42, c43, c44, c45, c46, c47, c48, c49, c50, c51, c52, c53, c54, c55, c56, c57, c58, c59, c60, c61, c62, c63, c64, c65, c66, c67, c68, c69, c70, c71, c72, c73, c74, c75, c76, c77, c78, c79, c80, c81, c82, c83, c84, c85, c86, c87, c88, c89, c90, c91, c92, c93, c94, c95, c96, c97, c98, c99, c100, c101, c102, c103, c104, c105, c106, c107, c108, c109, c110, c111, c112, c113, c114, c115, c116, c117, c118, c119, c120, c121, c122, c123, c124, c125, c126, c127, c128, c129, c130, c131, c132, c133, c134, c135, c136, c137, c138, c139, c140, c141, c142, c143, c144, c145, c146, c147, c148, c149, c150, c151, c152, c153, c154, c155, c156, c157, c158, c159, c160, c161, c162, c163, c164, c165, c166, c167, c168, c169, c170, c171, c172, c173, c174, c175, c176, c177, c178, c179, c180, c181, c182, c183, c184], []⟩ w := by
  obtain ⟨i38, hi38, z38a, z38b, z38c⟩ := info_parts Ybaf.info38
  obtain ⟨i46, hi46, z46a, z46b, z46c⟩ := info_parts Ybaf.info46
  have s0 : (0 : Int) ≤ (s : Int) := by omega
  have s3 : (s : Int) < 3 := by omega
  have HALL := hide hall
  have HNO := hide hno
  have HJ := hide hJ
  have HC := hide hc
  clear hall hno hJ hc
  conv => arg 2; whnf
  go_wp2
  go_loopg [14, 15] (k + 1) (fun gk vB' vD' wr => ∃ j, gk + j = k + 1 ∧ j ≤ k ∧ J w0 wr C x hb pb Q (md (L ++ List.replicate j s) (sq s c p j) n vB' vD'))
  case atStart => exact ⟨0, by omega, by omega, by show J w0 w C x hb pb Q (md (L ++ []) p n vB vD); rw [List.append_nil]; exact HJ.out⟩
  case round =>
    obtain ⟨j, hgk, hjk, hj⟩ := hrel
    have hcc := HC.out
    obtain ⟨q0, hq0⟩ : ∃ q0, q0 = c + j := ⟨_, rfl⟩
    obtain ⟨q, hq⟩ : ∃ q, q = c + 1 + j := ⟨_, rfl⟩
    have hM : (L ++ List.replicate j s).length ≤ 2010 := by simp; omega
    have hq64 : q < 18446744073709551616 := by omega
    have wq : IntKind.u64.wrap ((q0 : Int) + 1) = (q : Int) := by rw [wrap_u64]; omega
    have hq6 : (q0 : Int) < 6 := by omega
    have lp : pb < wr.heap.size := (Array.getElem?_eq_some_iff.1 hj.pl).1
    have lh : hb < wr.heap.size := hj.mh.lt
    have cL : wr.cell? ⟨pb, s, none⟩ = some (.int .u64 (q0 : Int)) := (three (u := fun t => .int .u64 (((L ++ List.replicate j s).count t : Nat) : Int)) hj.pl s hs).trans (by rw [List.count_append, List.count_replicate_self, ← HC.out, hq0])
    have fL := unfrozen hj.pl s
    have hbase := hj.S.hbase
    obtain ⟨nB, hnB⟩ : ∃ nB, nB = (L ++ List.replicate j s).length := ⟨_, rfl⟩
    obtain ⟨nD, hnD⟩ : ∃ nD, nD = (sq s c p j).D.length := ⟨_, rfl⟩
    have hnD' : nD = p.D.length + j := hnD.trans (sq_dv s c p k HALL.out j hjk).2
    have hnB2 : nB ≤ 2010 := by omega
    have hnD2 : nD ≤ 2010 := by omega
    have J1 := hj.alloc D (.cells #[.int .i64 (s : Int), .int .u64 (q : Int)] 38)
    have J3 := ((hj.setP D s q hs).alloc D (.cells #[.int .i64 (s : Int), .int .u64 (q : Int)] 38)).alloc D (.cells #[.int .i64 (s : Int), .int .u64 (q : Int)] 38)
    have HOB : Hid ((((wr.setCell ⟨pb, s, none⟩ (.int .u64 (q : Int))).alloc (.cells #[.int .i64 (s : Int), .int .u64 (q : Int)] 38)).alloc (.cells #[.int .i64 (s : Int), .int .u64 (q : Int)] 38)).ownsRow C.base 38 2 u14 nB (ids (L ++ List.replicate j s))) := hide (by rw [hnB]; exact J3.oB)
    have hpk := heap_alloc_new ((wr.setCell ⟨pb, s, none⟩ (.int .u64 (q : Int))).alloc (.cells #[.int .i64 (s : Int), .int .u64 (q : Int)] 38)) (.cells #[.int .i64 (s : Int), .int .u64 (q : Int)] 38)
    rw [show ((wr.setCell ⟨pb, s, none⟩ (.int .u64 (q : Int))).alloc (.cells #[.int .i64 (s : Int), .int .u64 (q : Int)] 38)).heap.size = wr.heap.size + 1 from by simp [World.setCell]] at hpk
    have HNW := hide (news_id _ _ _ _ hpk)
    clear hpk
    have HJ3 := hide J3
    have HOB0 := hide hj.oB
    have HNB := hide hnB
    have HND := hide hnD
    clear J3 hM hnB hnD hnD'
    have hlk := J1.mh.look s q hs hq64
    have HJ1 := hide J1
    have HQ := hide hq
    have HGK := hide hgk
    have HQ0 := hide hq0
    clear J1 hj hgk hq hq0 hcc
    by_cases hjk' : j < k
    · obtain ⟨bb, i, hsq, _⟩ := sq_some s c p k HALL.out j hjk'
      rw [show ((md (L ++ List.replicate j s) (sq s c p j) n _ _).hm s q) = some (.int .i64 (i : Int)) from by show mod _ s q = _; rw [mod, HQ.out, hsq]; rfl] at hlk
      simp only [Option.getD_some, Option.isSome_some, idV] at hlk
      have HSQ := hide hsq
      clear hsq
      clear HJ1
      generalize hR : Code.region 28 _ _ = R
      have HR := hide hR
      clear hR
      go_wp2_with (refine wpList_append_lies _ (by rfl) _ _ _ (by rfl) C.base 38 i38 _ 2 16 Ybaf.underlying34 hi38 z38a z38b z38c rfl (by omega) u14 nB _ (by rfl) HOB.out ⟨wr.heap.size + 1, 0, none⟩ 1 1 [.int .i64 (s : Int), .int .u64 (q : Int)] (by rfl) (by rfl) HNW.out (by simp [Value.oneCell']) (by omega) (by unfold maxLen; omega) (by omega) (by simp [World.setCell]; omega) (wr.heap.size + 1 + 1) (by simp [World.setCell]) ?_; intro gg cap w4 hown4 hgrow4 hat4 hlt4; obtain ⟨cN0, cN1, w5, hrun5, J5⟩ := in_mid D hs hq64 hown4 hgrow4 HJ3.out HOB0.out; simp only [idV] at hrun5; have HJ5 := hide J5; clear J5 hgrow4 hat4 hown4 hlt4)
      rw [← HR.out]
      clear HR
      have J6 := HJ5.out.alloc D (.cells #[.int .i64 (s : Int), .int .i64 (i : Int)] 46)
      have HJ6 := hide J6
      have HOD : Hid ((w5.alloc (.cells #[.int .i64 (s : Int), .int .i64 (i : Int)] 46)).ownsRow C.base 46 2 u15 nD (dlx (sq s c p j).D)) := hide (by rw [HND.out]; exact J6.oD)
      have HNW2 := hide (news_dl _ _ _ _ (heap_alloc_new w5 (.cells #[.int .i64 (s : Int), .int .i64 (i : Int)] 46)))
      have hb6 : C.base ≤ w5.heap.size := HJ5.out.S.hbase
      clear J6 HNW HOB cN0 cN1 hrun5 hlk cL fL
      go_wp2_with (refine wpList_append_lies _ (by rfl) _ _ _ (by rfl) C.base 46 i46 _ 2 16 Ybaf.underlying26 hi46 z46a z46b z46c rfl (by omega) u15 nD _ (by rfl) HOD.out ⟨w5.heap.size, 0, none⟩ 1 1 [.int .i64 (s : Int), .int .i64 (i : Int)] (by rfl) (by rfl) HNW2.out (by simp [Value.oneCell']) (by omega) (by unfold maxLen; omega) (by omega) (by simp; omega) (w5.heap.size + 1) (by simp) ?_; intro g2 cap2 w7 hown7 hgrow7 hat7 hlt7; have HJ7 := hide (HJ6.out.growD D hgrow7 hown7 (hat7.imp Eq.symm (fun e k hk => by simp [Value.ownBlock] at hk; simp; omega))); clear hgrow7 hat7 hown7 hlt7)
      go_roundg (k - j)
      case measure => have := HGK.out; omega
      case rel =>
        refine ⟨j + 1, by omega, by omega, ?_⟩
        have h := HJ7.out
        rw [HNB.out, HND.out] at h
        rw [← md_step L s c p j n q i bb u14 u15 _ _ HC.out HQ.out HSQ.out]
        rw [HNB.out, HND.out]
        exact h
    · have hjk2 : j = k := by omega
      subst hjk2
      rw [show ((md (L ++ List.replicate j s) (sq s c p j) n _ _).hm s q) = none from by show mod _ s q = _; rw [mod, HQ.out, sq_hv, if_neg (by omega), HNO.out]; rfl] at hlk
      simp only [Option.getD_none, Option.isSome_none, idV] at hlk
      go_wp2
      exact ⟨_, _, ⟨rfl, rfl⟩, HJ1.out⟩
end Go.Proofs.YbulkanjaFmt.Tot
