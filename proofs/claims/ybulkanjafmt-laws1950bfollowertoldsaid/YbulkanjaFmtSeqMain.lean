/-
  THE LOOP of LawS1950BSequencer over the steps.
-/
import Derived.Test.YbulkanjaFmtSeqEnd
import Derived.Test.YbulkanjaFmtLawKeep
namespace Go.Proofs.YbulkanjaFmt.Tot
open Go.RowKit Go.Maps Go.Proofs.YbulkanjaFmt.MapsF

/-- The steps, as the slice holds them. -/
def Steps (w : World) (a : Option Addr) (len : Nat) (xs ns : Nat → Int) : Prop := ∀ k, k < len → ∃ b o, a = some ⟨b, o, none⟩ ∧ w.cell? ⟨b, o + k * 2, none⟩ = some (.int .u8 (xs k)) ∧ w.cell? ⟨b, o + k * 2 + 1, none⟩ = some (.int .u8 (ns k)) ∧ 0 ≤ xs k ∧ xs k ≤ 255 ∧ 0 ≤ ns k ∧ ns k ≤ 255

/-- 'held[id] = i' -/
theorem round_store {w0 wr : World} {C : Cfg} {x : St} {hb pb : Nat} {Q : Nat → Obj → Prop} {L : List Nat} {p : Dlv} {k s m : Nat} {vB vD : Value} (D : Side C w0.heap.size hb pb Q) (hj : J w0 wr C x hb pb Q (md L p k vB vD)) (hs : s < 3) (hm : m < 18446744073709551616) (hk : k < maxLen) (xk nk : Int) :
    ∃ w3, (Instr.mapUpdate 31 (.map (some hb)) (idV s m) (.int .i64 (k : Int))).run Ybaf.prog ((wr.alloc (.cells #[.int .u8 xk, .int .u8 nk] 36)).alloc (.cells #[.int .i64 (s : Int), .int .u64 (m : Int)] 38)) = .ok () w3 ∧
      w3.cell? ⟨wr.heap.size + 1, 0, none⟩ = some (.int .i64 (s : Int)) ∧ w3.cell? ⟨wr.heap.size + 1, 1, none⟩ = some (.int .u64 (m : Int)) ∧ (∀ bb, J w0 w3 C x hb pb Q (md L (p.put s m bb k) (k + 1) vB vD)) ∧ wr.heap.size + 1 < w3.heap.size := by
  have J2 := (hj.alloc D (.cells #[.int .u8 xk, .int .u8 nk] 36)).alloc D (.cells #[.int .i64 (s : Int), .int .u64 (m : Int)] 38)
  obtain ⟨w3, hrun, hm3, ht3⟩ := J2.mh.store hk s m hs hm (.int .i64 (k : Int))
  have lh : hb < wr.heap.size := hj.mh.lt
  have hne : wr.heap.size + 1 ≠ hb := by omega
  refine ⟨w3, hrun, ?_, ?_, fun bb => ?_, ?_⟩
  · rw [turned_cell ht3 ⟨wr.heap.size + 1, 0, none⟩ hne]
    exact World.cell?_alloc_at _ _ _ _ (by simp)
  · rw [turned_cell ht3 ⟨wr.heap.size + 1, 1, none⟩ hne]
    exact World.cell?_alloc_at _ _ _ _ (by simp)
  · have J3 := J2.turn D ht3 hm3
    have e : updM (md L p k vB vD).hm s m (some (.int .i64 (k : Int))) = mod (p.put s m bb k).hv := mod_put p.hv s m bb k
    rw [e] at J3
    exact J3
  · rw [turned_size ht3]
    simp

set_option maxRecDepth 100000 in
set_option maxHeartbeats 3200000 in
theorem seq_loop (w0 w : World) (C : Cfg) (x : St) (hb pb ob : Nat) (Q : Nat → Obj → Prop) (D : Side C w0.heap.size hb pb Q) (hQ : Q ob (.cells #[.bool (C.out 0), .bool (C.out 1), .bool (C.out 2)] 22)) (p : Dlv) (bv dw vB vD : Value) (a : Option Addr) (len cap : Nat) (xs ns : Nat → Int) (hl : len ≤ 1024)
    (hst : Steps w0 a len xs ns) (hself : C.self = C.seq) (G : Good 0 x [] p) (hJ : J w0 w C (dlvd (placed x [] bv) [] p dw) hb pb Q (md [] p 0 vB vD)) {c0 c1 c4 c6 c7 c8 c9 c16 c17 c18 c19 c20 c21 c22 c23 c24 c25 c26 c27 c28 c29 c30 c31 c32 c33 c34 c35 c36 c37 c38 c39 c40 c41 c42 c43 c44 c45 c46 c47 c48 c49 c50 c51 c52 c53 c54 c55 c56 c57 c58 c59 c60 c61 c62 c63 c64 c65 c66 c67 c68 c69 c70 c71 c72 c73 c74 c75 c76 c77 c78 c79 c80 c81 c82 c83 c84 c85 c86 c87 c88 c89 c90 c91 c92 c93 c94 c95 c96 c97 c98 c99 c100 c101 c102 c103 c104 c105 c106 c107 c108 c109 c110 c111 c112 c113 c114 c115 c116 c117 c118 c119 c120 c121 c122 c123 c124 c125 c126 c127 c128 c129 c130 c131 c132 c133 c134 c135 c136 c137 c138 c139 c140 c141 c142 c143 c144 c145 c146 c147 c148 c149 c150 c151 c152 c153 c154 c155 c156 c157 c158 c159 c160 c161 c162 c163 c164 c165 c166 c167 c168 c169 c170 c171 c172 c173 c174 c175 c176 c177 c178 c179 c180 c181 c182 c183 c184 : Value} :
    Code.wp Ybaf.prog (dropSeq 9 (Ybaf.f3.body.getD .skip)) (bodyPost Ybaf.prog Ybaf.f3 (fun e w' => e = .returned (.bool true) ∧ Below w0.heap.size w0 w')) ⟨#[c0, c1, .bool C.pend, .slice a len cap, c4, .pointer (some ⟨ob, 0, none⟩), c6, c7, c8, c9, .pointer (some ⟨C.a 0, 0, none⟩), .pointer (some ⟨C.a 1, 0, none⟩), .map (some hb), .pointer (some ⟨pb, 0, none⟩), vB, vD, c16, c17, c18, c19, c20, c21, c22, c23, c24, c25, c26, c27, c28, c29, c30, c31, c32, c33, c34, c35, c36, c37, c38, c39, c40, c41, c42, c43, c44, c45, c46, c47, c48, c49, c50, c51, c52, c53, c54, c55, c56, c57, c58, c59, c60, c61, c62, c63, c64, c65, c66, c67, c68, c69, c70, c71, c72, c73, c74, c75, c76, c77, c78, c79, c80, c81, c82, c83, c84, c85, c86, c87, c88, c89, c90, c91, c92, c93, c94, c95, c96, c97, c98, c99, c100, c101, c102, c103, c104, c105, c106, c107, c108, c109, c110, c111, c112, c113, c114, c115, c116, c117, c118, c119, c120, c121, c122, c123, c124, c125, c126, c127, c128, c129, c130, c131, c132, c133, c134, c135, c136, c137, c138, c139, c140, c141, c142, c143, c144, c145, c146, c147, c148, c149, c150, c151, c152, c153, c154, c155, c156, c157, c158, c159, c160, c161, c162, c163, c164, c165, c166, c167, c168, c169, c170, c171, c172, c173, c174, c175, c176, c177, c178, c179, c180, c181, c182, c183, c184], []⟩ w := by
  have HST := hide hst
  have HJ := hide hJ
  have HG := hide G
  have HC1 := hide hself
  clear hst hJ G hself
  have e9 : dropSeq 9 (Ybaf.f3.body.getD .skip) = graft 1 (dropSeq 9 (Ybaf.f3.body.getD .skip)) (dropSeq 10 (Ybaf.f3.body.getD .skip)) := (graft_drop 1 (dropSeq 9 (Ybaf.f3.body.getD .skip))).symm
  rw [e9]
  generalize hR : dropSeq 10 (Ybaf.f3.body.getD .skip) = R
  have HR := hide hR
  clear hR e9
  conv => arg 2; arg 2; whnf
  simp only [graft]
  go_wp2
  go_loopw [44, 14, 15] (fun i vB vD wr => ∃ k : Nat, k ≤ len ∧ i = .int .i64 k ∧ ∃ x L p bv dw, J w0 wr C (dlvd (placed x L bv) L p dw) hb pb Q (md L p k vB vD) ∧ Good k x L p) (fun i _ _ _ => len - (intOf i).toNat)
  case atStart => exact ⟨0, Nat.zero_le _, rfl, x, [], p, bv, dw, HJ.out, HG.out⟩
  case round =>
    obtain ⟨k, hk, rfl, x, L, p, bv, dw, hj, G⟩ := hrel
    clear HJ HG
    have HG := hide G
    by_cases hlt : k < len
    · obtain ⟨b, o, rfl, cs0, cs1, x0, x1, y0, y1⟩ := HST.out k hlt
      have lb : b < w0.heap.size := World.block_lt_of_cell? w0 _ cs0
      have hkw := hj.kw
      have bw := hkw.below (Nat.le_refl _) (fun _ h => h)
      have d0 : wr.cell? ⟨b, o + k * 2, none⟩ = some (.int .u8 (xs k)) := (bw.cell (p := ⟨b, o + k * 2, none⟩) lb).trans cs0
      have d1 : wr.cell? ⟨b, o + k * 2 + 1, none⟩ = some (.int .u8 (ns k)) := (bw.cell (p := ⟨b, o + k * 2 + 1, none⟩) lb).trans cs1
      have k0 : (k : Int) < (len : Int) := by omega
      obtain ⟨s, hs⟩ : ∃ s : Nat, xs k % 3 = (s : Int) := ⟨(xs k % 3).toNat, by omega⟩
      obtain ⟨m, hm⟩ : ∃ m : Nat, ns k % 6 = (m : Int) := ⟨(ns k % 6).toNat, by omega⟩
      have s3 : s < 3 := by omega
      have m5 : m ≤ 5 := by omega
      have hnhm : k < maxLen := by unfold maxLen; omega
      obtain ⟨w3, hrun3, j0, j1, J3, lw⟩ := round_store D hj s3 (show m < 18446744073709551616 by omega) hnhm (xs k) (ns k)
      simp only [idV] at hrun3
      have J4 := (J3 w3.heap.size).alloc D (.cells #[.int .u8 ((k : Int) % 256), .int .u8 ((k : Int) / 256)] 5)
      have hb4 : C.base ≤ w3.heap.size := (J3 0).S.hbase
      have hbk : (w3.alloc (.cells #[.int .u8 ((k : Int) % 256), .int .u8 ((k : Int) / 256)] 5)).heap[w3.heap.size]? = some (.cells #[.int .u8 ((k % 256 : Nat) : Int), .int .u8 ((k / 256 : Nat) : Int)] 5) := (heap_alloc_new w3 _).trans (by simp)
      have HJ4 := hide J4
      have HBK := hide hbk
      clear cs0 cs1 hkw bw hj G J3 J4 hbk
      generalize hR20 : Code.region 20 _ _ = R20
      generalize hB2 : Code.block 2 _ = B2
      have HR20 := hide hR20
      have HB2 := hide hB2
      clear hR20 hB2
      go_wp2_with (go_at_call 6; refine (keep_law C D.O x L p bv dw s m w3.heap.size k _ s3 m5 (by omega) HG.out HJ4.out.S HBK.out hb4 HC1.out).mono ?_; rintro e w5 ⟨rfl, kk, bv', dw', S5, K5, M5, hall, hno, hz⟩; have HJ5 := hide (HJ4.out.called D S5 K5 M5); have HALL := hide hall; have HNO := hide hno; have HZ := hide hz; clear S5 K5 M5 hall hno hz)
      clear hrun3 j0 j1 lw d0 d1 HJ4 HBK hb4
      obtain ⟨hck, G'⟩ := HG.out.next s m w3.heap.size kk s3 m5 HALL.out
      have HG' := hide G'
      have HCK := hide hck
      clear G' hck
      rw [← HR20.out]
      clear HR20
      have cO : w5.cell? ⟨ob, s, none⟩ = some (.bool (C.out s)) := three (u := fun t => .bool (C.out t)) (HJ5.out.q ob _ hQ) s s3
      have s0 : (0 : Int) ≤ (s : Int) := by omega
      have s3' : (s : Int) < 3 := by omega
      rcases Bool.eq_false_or_eq_true C.pend with hp | hp
      · have hkk := HZ.out (by rw [hp]; rfl)
        subst hkk
        have hnp : (!C.pend) = false := by rw [hp]; rfl
        clear hp
        go_wp2
        go_roundw
        case rel =>
          refine ⟨k + 1, by omega, by go_num, x.more, _, _, bv', dw', ?_, HG'.out⟩
          simpa [sq] using HJ5.out
        case measure => simp [intOf]; omega
      · have hnp : (!C.pend) = true := by rw [hp]; rfl
        rcases Bool.eq_false_or_eq_true (C.out s) with ho | ho
        · have hkk := HZ.out (by rw [ho]; simp)
          subst hkk
          rw [ho] at cO
          clear hp ho
          go_wp2
          go_roundw
          case rel =>
            refine ⟨k + 1, by omega, by go_num, x.more, _, _, bv', dw', ?_, HG'.out⟩
            simpa [sq] using HJ5.out
          case measure => simp [intOf]; omega
        · have hno := HNO.out (by rw [hp, ho]; rfl)
          have HN := hide hno
          rw [ho] at cO
          clear hp ho hno
          go_wp2_with fail
          rw [← HB2.out]
          have hl15 := HG.out.len
          have hdl15 := HG.out.dl
          refine Code.wp_mono ?_ (show Code.wp Ybaf.prog inner3 _ _ _ from seq_inner w0 w5 C _ hb pb Q D L (p.put s m w3.heap.size k) (k + 1) s (L.count s) kk u14 u15 s3 rfl HCK.out (by omega) (by show p.D.length ≤ _; omega) HALL.out HN.out HJ5.out)
          rintro e a2 w6 ⟨rfl, vB', vD', d22, d23, d24, d82, d83, d84, d85, d86, d87, d88, d89, d90, d91, d92, d93, d94, d95, d96, d97, d98, d99, d100, d101, d102, d103, d104, d105, d106, d107, d108, d109, d110, d111, d112, d113, d114, d115, rfl, J6⟩
          have HJ6 := hide J6
          clear J6 hl15 hdl15
          go_wp2
          go_roundw
          case rel => exact ⟨k + 1, by omega, by go_num, x.more, _, _, bv', dw', HJ6.out, HG'.out⟩
          case measure => simp [intOf]; omega
    · have hkl : k = len := by omega
      subst hkl
      have HJr := hide hj
      clear G hj
      go_wp2_with fail
      rw [← HR.out]
      exact seq_end w0 wr C x hb pb Q D L p _ bv dw _ _ (by have := HG.out.len; omega) HG.out.dv HG.out.dl HJr.out
end Go.Proofs.YbulkanjaFmt.Tot
