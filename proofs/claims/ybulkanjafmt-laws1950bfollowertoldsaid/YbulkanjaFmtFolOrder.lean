/-
  THE LOOP of LawS1950BFollower over the order.
-/
import Derived.Test.YbulkanjaFmtFolMain
namespace Go.Proofs.YbulkanjaFmt.Tot
open Go.RowKit Go.Maps Go.Proofs.YbulkanjaFmt.MapsF

/-- The order, as the slice holds it. -/
def Bytes (w : World) (a : Option Addr) (len : Nat) (os : Nat → Int) : Prop := ∀ k, k < len → ∃ b o, a = some ⟨b, o, none⟩ ∧ w.cell? ⟨b, o + k, none⟩ = some (.int .u8 (os k)) ∧ 0 ≤ os k ∧ os k ≤ 255

theorem stF_snoc (L : List Nat) (s q g1 : Nat) (hq : q = L.count s + 1) (hg : g1 = L.length + 1) : ({ stF L 0 with plm := updF (plf L) g1 (some (idV s q)), nM := L.length + 1 } : St) = stF (L ++ [s]) 0 := by
  unfold stF
  rw [plf_snoc L s g1 q hg hq]
  simp

/-- Behind the append to the list: 'p.places[uint64(k+1)] = id'. -/
theorem ord_mid {w0 wr w4 : World} {C : Cfg} {pb : Nat} {L : List Nat} {vL : Value} {s q g1 gg m cap : Nat} (F : SideF C w0.heap.size pb) (h : K1 w0 wr C pb L vL) (hs : s < 3) (hq : q = L.count s + 1) (hg1 : g1 = L.length + 1) (hg64 : g1 < 18446744073709551616) (hlen : L.length ≤ 2000)
    (hown : w4.ownsRow C.base 38 2 (.slice (some ⟨gg, 0, none⟩) m cap) (L.length + 1) (ids L ++ [.int .i64 (s : Int), .int .u64 (q : Int)]))
    (hgrow : (((wr.setCell ⟨pb, s, none⟩ (.int .u64 (q : Int))).alloc (.cells #[.int .i64 (s : Int), .int .u64 (q : Int)] 38)).alloc (.cells #[.int .i64 (s : Int), .int .u64 (q : Int)] 38)).grownBy w4 vL.ownBlock) :
    w4.cell? ⟨wr.heap.size, 0, none⟩ = some (.int .i64 (s : Int)) ∧ w4.cell? ⟨wr.heap.size, 1, none⟩ = some (.int .u64 (q : Int)) ∧ w4.cell? ⟨C.a 1, 7, none⟩ = some (.map (some (C.a 6))) ∧ C.a 1 < w4.heap.size ∧ wr.heap.size < w4.heap.size ∧
      ∃ w5, (Instr.mapUpdate 58 (.map (some (C.a 6))) (.int .u64 (g1 : Int)) (idV s q)).run Ybaf.prog w4.drew = .ok () w5 ∧ K1 w0 w5 C pb (L ++ [s]) (.slice (some ⟨gg, 0, none⟩) m cap) := by
  have hsz : (wr.setCell ⟨pb, s, none⟩ (.int .u64 (q : Int))).heap.size = wr.heap.size := by simp [World.setCell]
  have hne : some wr.heap.size ≠ vL.ownBlock := own_new h.oL
  have lp : pb < wr.heap.size := lt_blk h.pl
  have pB := F.pl
  have hk : Keeps (fun k => k = pb ∨ vL.ownBlock = some k) wr w4 := (((((Keeps.refl _ wr).setCell (p := ⟨pb, s, none⟩) (.inl rfl) (.int .u64 (q : Int))).alloc _).alloc _).grown hgrow (fun k hk => .inr hk))
  have S4 : PS w4 C (stF L 0) := by
    refine h.S.same F.O hk (fun i hi => ?_) (fun k hb => (by cases hb)) (fun k hd => (by cases hd)) (fun k hkb cs hc => ?_)
    · have := F.O.lt i hi
      rintro (e | e)
      · exact F.pa i hi e
      · have := (h.oL.lt _ e).1; omega
    · rintro (e | e)
      · omega
      · exact own_ne h.oL hc (by decide) e
  have pl4 : w4.heap[pb]? = some (.cells #[.int .u64 ((L ++ [s]).count 0 : Int), .int .u64 ((L ++ [s]).count 1 : Int), .int .u64 ((L ++ [s]).count 2 : Int)] 33) := by
    have npb : some pb ≠ vL.ownBlock := fun e => by have := (h.oL.lt pb e.symm).1; omega
    rw [hgrow.block pb (by simp [hsz]; omega) npb, Below.heap_alloc _ _ _ (by simp [hsz]; omega), Below.heap_alloc _ _ _ (by rw [hsz]; exact lp), heap_setCell_same wr _ s _ _ _ h.pl]
    have e := cnt_snoc L s q hq
    have e0 := congrFun e 0
    have e1 := congrFun e 1
    have e2 := congrFun e 2
    rw [set3 (fun t => L.count t) s q hs, e0, e1, e2]
  have c0 : w4.cell? ⟨wr.heap.size, 0, none⟩ = some (.int .i64 (s : Int)) := by
    rw [hgrow.cell_far ⟨wr.heap.size, 0, none⟩ (by simp [hsz]; omega) hne, World.cell?_alloc_past _ _ _ (by simp [hsz])]
    exact World.cell?_alloc_at _ _ _ _ hsz.symm
  have c1 : w4.cell? ⟨wr.heap.size, 1, none⟩ = some (.int .u64 (q : Int)) := by
    rw [hgrow.cell_far ⟨wr.heap.size, 1, none⟩ (by simp [hsz]; omega) hne, World.cell?_alloc_past _ _ _ (by simp [hsz])]
    exact World.cell?_alloc_at _ _ _ _ hsz.symm
  obtain ⟨w5, hrun5, hM5, ht5⟩ := (S4.drew F.O).hM.store (t := 58) (e := 38) Ybaf.underlying58 (by show L.length < maxLen; unfold maxLen; omega) g1 hg64 (idV s q)
  have S5 := (S4.drew F.O).setM F.O ht5 hM5
  refine ⟨c0, c1, cell_of_row w4 _ 7 _ _ _ S4.hP, lt_blk S4.hP, World.block_lt_of_cell? w4 _ c0, w5, hrun5, ⟨?_, ?_, ?_, ?_⟩⟩
  · rw [← stF_snoc L s q g1 hq hg1]
    exact S5
  · exact (turned_block ht5 (F.pa 6 (by decide)).symm).trans pl4
  · have e : (L ++ [s]).length = L.length + 1 := by simp
    rw [ids_snoc L s q hq, e]
    refine own_of_block hown (fun k hk' => turned_block ht5 ?_)
    have h1 := (hown.lt k hk').1
    have h2 := F.O.lt 6 (by decide)
    omega
  · refine (h.kw.then hk (fun k hk0 e => ?_)).drew.turned ht5 (F.aB 6 (by decide))
    rcases e with e | e
    · have := F.pB; omega
    · have := (h.oL.lt k e).1; have := F.bB; omega

set_option maxRecDepth 100000 in
set_option maxHeartbeats 3200000 in
theorem fol_order (w0 w : World) (C : Cfg) (pb : Nat) (F : SideF C w0.heap.size pb) (vL : Value) (ao : Option Addr) (leno capo : Nat) (os : Nat → Int) (a : Option Addr) (len cap : Nat) (xs ns : Nat → Int) (hlo : leno ≤ 1024) (hl : len ≤ 1024)
    (hor : Bytes w0 ao leno os) (hst : Steps w0 a len xs ns) (hself : C.self ≠ C.seq) (hK : K1 w0 w C pb [] vL) {c0 c3 c4 c5 c6 c7 c12 c13 c14 c15 c16 c17 c18 c19 c20 c21 c22 c23 c24 c25 c26 c27 c28 c29 c30 c31 c32 c33 c34 c35 c36 c37 c38 c39 c40 c41 c42 c43 c44 c45 c46 c47 c48 c49 c50 c51 c52 c53 c54 c55 c56 c57 c58 c59 c60 c61 c62 c63 c64 c65 c66 c67 c68 c69 c70 c71 c72 c73 c74 c75 c76 c77 c78 c79 c80 c81 c82 c83 c84 c85 c86 c87 c88 c89 c90 c91 c92 c93 c94 c95 c96 c97 c98 c99 c100 c101 c102 c103 c104 c105 c106 c107 c108 c109 c110 c111 c112 c113 c114 c115 c116 c117 c118 c119 c120 c121 c122 c123 c124 c125 c126 c127 c128 c129 c130 c131 c132 c133 c134 c135 c136 c137 c138 c139 c140 c141 c142 c143 c144 c145 c146 c147 c148 c149 c150 c151 c152 c153 c154 c155 c156 c157 c158 c159 c160 c161 c162 c163 c164 c165 c166 c167 c168 c169 : Value} :
    Code.wp Ybaf.prog (dropSeq 7 (Ybaf.f4.body.getD .skip)) (bodyPost Ybaf.prog Ybaf.f4 (fun e w' => e = .returned (.bool true) ∧ Below w0.heap.size w0 w')) ⟨#[c0, .slice ao leno capo, .slice a len cap, c3, c4, c5, c6, c7, .pointer (some ⟨C.a 0, 0, none⟩), .pointer (some ⟨C.a 1, 0, none⟩), .pointer (some ⟨pb, 0, none⟩), vL, c12, c13, c14, c15, c16, c17, c18, c19, c20, c21, c22, c23, c24, c25, c26, c27, c28, c29, c30, c31, c32, c33, c34, c35, c36, c37, c38, c39, c40, c41, c42, c43, c44, c45, c46, c47, c48, c49, c50, c51, c52, c53, c54, c55, c56, c57, c58, c59, c60, c61, c62, c63, c64, c65, c66, c67, c68, c69, c70, c71, c72, c73, c74, c75, c76, c77, c78, c79, c80, c81, c82, c83, c84, c85, c86, c87, c88, c89, c90, c91, c92, c93, c94, c95, c96, c97, c98, c99, c100, c101, c102, c103, c104, c105, c106, c107, c108, c109, c110, c111, c112, c113, c114, c115, c116, c117, c118, c119, c120, c121, c122, c123, c124, c125, c126, c127, c128, c129, c130, c131, c132, c133, c134, c135, c136, c137, c138, c139, c140, c141, c142, c143, c144, c145, c146, c147, c148, c149, c150, c151, c152, c153, c154, c155, c156, c157, c158, c159, c160, c161, c162, c163, c164, c165, c166, c167, c168, c169], []⟩ w := by
  obtain ⟨i38, hi38, z38a, z38b, z38c⟩ := info_parts Ybaf.info38
  have HOR := hide hor
  have HST := hide hst
  have HSF := hide hself
  have HK := hide hK
  clear hor hst hself hK
  have e7 : dropSeq 7 (Ybaf.f4.body.getD .skip) = graft 1 (dropSeq 7 (Ybaf.f4.body.getD .skip)) (dropSeq 8 (Ybaf.f4.body.getD .skip)) := (graft_drop 1 (dropSeq 7 (Ybaf.f4.body.getD .skip))).symm
  rw [e7]
  generalize hR : dropSeq 8 (Ybaf.f4.body.getD .skip) = R
  have HR := hide hR
  clear hR e7
  conv => arg 2; arg 2; whnf
  simp only [graft]
  go_wp2
  go_loopw [50, 11] (fun i vL wr => ∃ k : Nat, k ≤ leno ∧ i = .int .i64 k ∧ ∃ L : List Nat, L.length = k ∧ (∀ s ∈ L, s < 3) ∧ K1 w0 wr C pb L vL) (fun i _ _ => leno - (intOf i).toNat)
  case atStart => exact ⟨0, Nat.zero_le _, rfl, [], rfl, fun s hs => (by cases hs), HK.out⟩
  case round =>
    obtain ⟨k, hk, rfl, L, hLk, hL3, hK⟩ := hrel
    clear HK
    have HL3 := hide hL3
    have HLK := hide hLk
    clear hL3
    by_cases hlt : k < leno
    · obtain ⟨b, o, rfl, cs0, x0, x1⟩ := HOR.out k hlt
      have lb : b < w0.heap.size := World.block_lt_of_cell? w0 _ cs0
      have bw := hK.kw.below (Nat.le_refl _) (fun _ h => h)
      have d0 : wr.cell? ⟨b, o + k, none⟩ = some (.int .u8 (os k)) := (bw.cell (p := ⟨b, o + k, none⟩) lb).trans cs0
      have k0 : (k : Int) < (leno : Int) := by omega
      obtain ⟨s, hs⟩ : ∃ s : Nat, os k % 3 = (s : Int) := ⟨(os k % 3).toNat, by omega⟩
      have s3 : s < 3 := by omega
      have s0 : (0 : Int) ≤ (s : Int) := by omega
      have s3' : (s : Int) < 3 := by omega
      obtain ⟨q0, hq0⟩ : ∃ q0, q0 = L.count s := ⟨_, rfl⟩
      obtain ⟨q, hq⟩ : ∃ q, q = L.count s + 1 := ⟨_, rfl⟩
      obtain ⟨g1, hg1⟩ : ∃ g1, g1 = k + 1 := ⟨_, rfl⟩
      have hcl : L.count s ≤ k := by rw [← hLk]; exact List.count_le_length
      have wq : IntKind.u64.wrap ((q0 : Int) + 1) = (q : Int) := by rw [wrap_u64]; omega
      have wg : IntKind.u64.wrap ((k : Int) + 1) = (g1 : Int) := by rw [wrap_u64]; omega
      have lp : pb < wr.heap.size := lt_blk hK.pl
      have cL : wr.cell? ⟨pb, s, none⟩ = some (.int .u64 (q0 : Int)) := (three (u := fun t => .int .u64 ((L.count t : Nat) : Int)) hK.pl s s3).trans (by rw [hq0])
      have fL := unfrozen hK.pl s
      have hbase := hK.S.hbase
      have HOL : Hid ((((wr.setCell ⟨pb, s, none⟩ (.int .u64 (q : Int))).alloc (.cells #[.int .i64 (s : Int), .int .u64 (q : Int)] 38)).alloc (.cells #[.int .i64 (s : Int), .int .u64 (q : Int)] 38)).ownsRow C.base 38 2 u11 k (ids L)) := hide (by
        have h1 := hK.oL
        rw [hLk] at h1
        exact ((ownsRow_setCell_below h1 (a := ⟨pb, s, none⟩) F.pl _).alloc _).alloc _)
      have hpk := heap_alloc_new ((wr.setCell ⟨pb, s, none⟩ (.int .u64 (q : Int))).alloc (.cells #[.int .i64 (s : Int), .int .u64 (q : Int)] 38)) (.cells #[.int .i64 (s : Int), .int .u64 (q : Int)] 38)
      rw [show ((wr.setCell ⟨pb, s, none⟩ (.int .u64 (q : Int))).alloc (.cells #[.int .i64 (s : Int), .int .u64 (q : Int)] 38)).heap.size = wr.heap.size + 1 from by simp [World.setCell]] at hpk
      have HNW := hide (news_id _ _ _ _ hpk)
      have HKr := hide hK
      have HQ := hide hq
      have HG1 := hide hg1
      have HS := hide hs
      clear hpk hK hq hq0 hg1 cs0 bw hLk hcl
      go_wp2_with (refine wpList_append_lies _ (by rfl) _ _ _ (by rfl) C.base 38 i38 _ 2 16 Ybaf.underlying34 hi38 z38a z38b z38c rfl (by omega) u11 k _ (by rfl) HOL.out ⟨wr.heap.size + 1, 0, none⟩ 1 1 [.int .i64 (s : Int), .int .u64 (q : Int)] (by rfl) (by rfl) HNW.out (by simp [Value.oneCell']) (by omega) (by unfold maxLen; omega) (by omega) (by simp [World.setCell]; omega) (wr.heap.size + 1 + 1) (by simp [World.setCell]) ?_; intro gg cap w4 hown4 hgrow4 hat4 hlt4; obtain ⟨cN0, cN1, cP7, la1, lw4, w5, hrun5, K5⟩ := ord_mid (g1 := g1) F HKr.out s3 HQ.out (by rw [HLK.out]; exact HG1.out) (by have := HG1.out; omega) (by rw [HLK.out]; omega) (by rw [HLK.out]; exact hown4) hgrow4; simp only [idV] at hrun5; have HK5 := hide K5; clear K5 hgrow4 hat4 hown4 hlt4)
      apply wp_region_post (fun w2 => w2 = w5)
      case h =>
        go_region
        all_goals exact ⟨rfl, rfl⟩
      intro w9 h9
      rw [h9]
      clear h9 w9 hrun5 cN0 cN1 cP7 la1 lw4
      go_wp2
      go_roundw
      case rel =>
        refine ⟨k + 1, by omega, by go_num, L ++ [s], by simp [HLK.out], fun t ht => ?_, HK5.out⟩
        rcases List.mem_append.1 ht with h | h
        · exact HL3.out t h
        · rw [List.mem_singleton.1 h]; exact s3
      case measure => simp [intOf]; omega
    · have hkl : k = leno := by omega
      subst hkl
      have HKr := hide hK
      obtain ⟨pL, capL, eL⟩ := own_slice hK.oL
      subst eL
      clear hK
      go_wp2_with fail
      rw [← HR.out]
      exact fol_main w0 wr C pb L F pL _ capL a len cap xs ns hl rfl HL3.out (by rw [HLK.out]; exact hlo) HST.out HSF.out HKr.out

/-- The same, at slots that are equal to what it names. -/
theorem fol_order_at (w0 w : World) (C : Cfg) (pb : Nat) (F : SideF C w0.heap.size pb) (vL : Value) (ao : Option Addr) (leno capo : Nat) (os : Nat → Int) (a : Option Addr) (len cap : Nat) (xs ns : Nat → Int) (hlo : leno ≤ 1024) (hl : len ≤ 1024)
    (hor : Bytes w0 ao leno os) (hst : Steps w0 a len xs ns) (hself : C.self ≠ C.seq) (hK : K1 w0 w C pb [] vL) (T P : Nat) (e1 : C.a 0 = T) (e2 : C.a 1 = P) {c0 c3 c4 c5 c6 c7 c12 c13 c14 c15 c16 c17 c18 c19 c20 c21 c22 c23 c24 c25 c26 c27 c28 c29 c30 c31 c32 c33 c34 c35 c36 c37 c38 c39 c40 c41 c42 c43 c44 c45 c46 c47 c48 c49 c50 c51 c52 c53 c54 c55 c56 c57 c58 c59 c60 c61 c62 c63 c64 c65 c66 c67 c68 c69 c70 c71 c72 c73 c74 c75 c76 c77 c78 c79 c80 c81 c82 c83 c84 c85 c86 c87 c88 c89 c90 c91 c92 c93 c94 c95 c96 c97 c98 c99 c100 c101 c102 c103 c104 c105 c106 c107 c108 c109 c110 c111 c112 c113 c114 c115 c116 c117 c118 c119 c120 c121 c122 c123 c124 c125 c126 c127 c128 c129 c130 c131 c132 c133 c134 c135 c136 c137 c138 c139 c140 c141 c142 c143 c144 c145 c146 c147 c148 c149 c150 c151 c152 c153 c154 c155 c156 c157 c158 c159 c160 c161 c162 c163 c164 c165 c166 c167 c168 c169 : Value} :
    Code.wp Ybaf.prog (dropSeq 7 (Ybaf.f4.body.getD .skip)) (bodyPost Ybaf.prog Ybaf.f4 (fun e w' => e = .returned (.bool true) ∧ Below w0.heap.size w0 w')) ⟨#[c0, .slice ao leno capo, .slice a len cap, c3, c4, c5, c6, c7, .pointer (some ⟨T, 0, none⟩), .pointer (some ⟨P, 0, none⟩), .pointer (some ⟨pb, 0, none⟩), vL, c12, c13, c14, c15, c16, c17, c18, c19, c20, c21, c22, c23, c24, c25, c26, c27, c28, c29, c30, c31, c32, c33, c34, c35, c36, c37, c38, c39, c40, c41, c42, c43, c44, c45, c46, c47, c48, c49, c50, c51, c52, c53, c54, c55, c56, c57, c58, c59, c60, c61, c62, c63, c64, c65, c66, c67, c68, c69, c70, c71, c72, c73, c74, c75, c76, c77, c78, c79, c80, c81, c82, c83, c84, c85, c86, c87, c88, c89, c90, c91, c92, c93, c94, c95, c96, c97, c98, c99, c100, c101, c102, c103, c104, c105, c106, c107, c108, c109, c110, c111, c112, c113, c114, c115, c116, c117, c118, c119, c120, c121, c122, c123, c124, c125, c126, c127, c128, c129, c130, c131, c132, c133, c134, c135, c136, c137, c138, c139, c140, c141, c142, c143, c144, c145, c146, c147, c148, c149, c150, c151, c152, c153, c154, c155, c156, c157, c158, c159, c160, c161, c162, c163, c164, c165, c166, c167, c168, c169], []⟩ w := by
  subst e1 e2
  exact fol_order w0 w C pb F vL ao leno capo os a len cap xs ns hlo hl hor hst hself hK
end Go.Proofs.YbulkanjaFmt.Tot
