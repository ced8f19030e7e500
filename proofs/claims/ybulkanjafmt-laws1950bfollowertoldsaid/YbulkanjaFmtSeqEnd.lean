/-
  THE END of LawS1950BSequencer: behind the loop over the steps.
-/
import Derived.Test.YbulkanjaFmtInner
namespace Go.Proofs.YbulkanjaFmt.Tot
open Go.RowKit Go.Maps Go.Proofs.YbulkanjaFmt.MapsF

/-- A row's form. -/
theorem own_form {w : World} {base e size n : Nat} {v : Value} {xs : List Value} (h : w.ownsRow base e size v n xs) : ∃ p cap, v = .slice p n cap ∧ ∀ j, j < n * size → ∃ g, p = some ⟨g, 0, none⟩ ∧ w.cell? ⟨g, j, none⟩ = xs[j]? := by
  obtain ⟨_, ⟨rfl, h0⟩ | ⟨g, cap, cur, rfl, _, _⟩⟩ := id h
  · exact ⟨none, 0, by rw [h0], fun j hj => by subst h0; omega⟩
  · exact ⟨_, _, rfl, fun j hj => ⟨g, rfl, h.cellAt j hj⟩⟩

theorem own_slice {w : World} {base e size n : Nat} {v : Value} {xs : List Value} (h : w.ownsRow base e size v n xs) : ∃ p cap, v = .slice p n cap := by
  obtain ⟨p, cap, h, _⟩ := own_form h
  exact ⟨p, cap, h⟩

/-- The packet and the id of place k + 1. -/
theorem place_at {w : World} {base n capB capE : Nat} {pB pE : Option Addr} (L : List Nat) (hn : n = L.length) (h1 : w.ownsRow base 51 17 (.slice pB n capB) n (pks L)) (h2 : w.ownsRow base 38 2 (.slice pE n capE) n (ids L)) (k : Nat) (hk : k < n) :
    ∃ gB gE, ∃ s m : Nat, pB = some ⟨gB, 0, none⟩ ∧ pE = some ⟨gE, 0, none⟩ ∧ (∀ j u, (pkt ((k : Int) + 1) (m : Int) (s : Int))[j]? = some u → w.cell? ⟨gB, k * 17 + j, none⟩ = some u) ∧ w.cell? ⟨gE, k * 2, none⟩ = some (.int .i64 (s : Int)) ∧ w.cell? ⟨gE, k * 2 + 1, none⟩ = some (.int .u64 (m : Int)) := by
  subst hn
  obtain ⟨_, ⟨_, h0⟩ | ⟨gB, cap, cur, e, _, _⟩⟩ := id h1
  · omega
  obtain ⟨_, ⟨_, h0⟩ | ⟨gE, cap', cur', e', _, _⟩⟩ := id h2
  · omega
  cases e
  cases e'
  obtain ⟨i1, i2⟩ := ids_at L k hk
  refine ⟨gB, gE, L.getD k 0, num L k, rfl, rfl, fun j u hu => ?_, (h2.cellAt (k * 2) (by omega)).trans i1, (h2.cellAt (k * 2 + 1) (by omega)).trans i2⟩
  have hj : j < 17 := by
    have := (List.getElem?_eq_some_iff.1 hu).1
    simpa [pkt] using this
  rw [h1.cellAt (k * 17 + j) (by omega), pks_at L k j hk hj]
  exact hu

set_option maxRecDepth 100000 in
set_option maxHeartbeats 3200000 in
theorem seq_end (w0 w : World) (C : Cfg) (x : St) (hb pb : Nat) (Q : Nat → Obj → Prop) (D : Side C w0.heap.size hb pb Q) (L : List Nat) (p : Dlv) (n : Nat) (bv dw vB vD : Value) (hlen : L.length ≤ 2000) (hdv : p.dv = L.length) (hDl : p.D.length = L.length)
    (hJ : J w0 w C (dlvd (placed x L bv) L p dw) hb pb Q (md L p n vB vD)) {c0 c1 c2 c3 c4 c5 c6 c7 c8 c9 c12 c13 c16 c17 c18 c19 c20 c21 c22 c23 c24 c25 c26 c27 c28 c29 c30 c31 c32 c33 c34 c35 c36 c37 c38 c39 c40 c41 c42 c43 c44 c45 c46 c47 c48 c49 c50 c51 c52 c53 c54 c55 c56 c57 c58 c59 c60 c61 c62 c63 c64 c65 c66 c67 c68 c69 c70 c71 c72 c73 c74 c75 c76 c77 c78 c79 c80 c81 c82 c83 c84 c85 c86 c87 c88 c89 c90 c91 c92 c93 c94 c95 c96 c97 c98 c99 c100 c101 c102 c103 c104 c105 c106 c107 c108 c109 c110 c111 c112 c113 c114 c115 c116 c117 c118 c119 c120 c121 c122 c123 c124 c125 c126 c127 c128 c129 c130 c131 c132 c133 c134 c135 c136 c137 c138 c139 c140 c141 c142 c143 c144 c145 c146 c147 c148 c149 c150 c151 c152 c153 c154 c155 c156 c157 c158 c159 c160 c161 c162 c163 c164 c165 c166 c167 c168 c169 c170 c171 c172 c173 c174 c175 c176 c177 c178 c179 c180 c181 c182 c183 c184 : Value} :
    Code.wp Ybaf.prog (dropSeq 10 (Ybaf.f3.body.getD .skip)) (bodyPost Ybaf.prog Ybaf.f3 (fun e w' => e = .returned (.bool true) ∧ Below w0.heap.size w0 w')) ⟨#[c0, c1, c2, c3, c4, c5, c6, c7, c8, c9, .pointer (some ⟨C.a 0, 0, none⟩), .pointer (some ⟨C.a 1, 0, none⟩), c12, c13, vB, vD, c16, c17, c18, c19, c20, c21, c22, c23, c24, c25, c26, c27, c28, c29, c30, c31, c32, c33, c34, c35, c36, c37, c38, c39, c40, c41, c42, c43, c44, c45, c46, c47, c48, c49, c50, c51, c52, c53, c54, c55, c56, c57, c58, c59, c60, c61, c62, c63, c64, c65, c66, c67, c68, c69, c70, c71, c72, c73, c74, c75, c76, c77, c78, c79, c80, c81, c82, c83, c84, c85, c86, c87, c88, c89, c90, c91, c92, c93, c94, c95, c96, c97, c98, c99, c100, c101, c102, c103, c104, c105, c106, c107, c108, c109, c110, c111, c112, c113, c114, c115, c116, c117, c118, c119, c120, c121, c122, c123, c124, c125, c126, c127, c128, c129, c130, c131, c132, c133, c134, c135, c136, c137, c138, c139, c140, c141, c142, c143, c144, c145, c146, c147, c148, c149, c150, c151, c152, c153, c154, c155, c156, c157, c158, c159, c160, c161, c162, c163, c164, c165, c166, c167, c168, c169, c170, c171, c172, c173, c174, c175, c176, c177, c178, c179, c180, c181, c182, c183, c184], []⟩ w := by
  obtain ⟨m, hm⟩ : ∃ m, m = L.length := ⟨_, rfl⟩
  obtain ⟨pB, capB, eB⟩ := own_slice hJ.S.ob
  obtain ⟨pD, capD, eD⟩ := own_slice hJ.S.od
  obtain ⟨pE, capE, eE⟩ := own_slice hJ.oB
  obtain ⟨pF, capF, eF⟩ := own_slice hJ.oD
  have nb : (dlvd (placed x L bv) L p dw).nb = m := hm.symm
  have nd : (dlvd (placed x L bv) L p dw).nd = m := hDl.trans hm.symm
  have nE : (md L p n vB vD).nB = m := hm.symm
  have nF : (md L p n vB vD).nD = m := hDl.trans hm.symm
  rw [nb] at eB
  rw [nd] at eD
  rw [nE] at eE
  rw [nF] at eF
  have eB' : bv = .slice pB m capB := eB
  have eD' : dw = .slice pD m capD := eD
  have eE' : vB = .slice pE m capE := eE
  have eF' : vD = .slice pF m capF := eF
  clear eB eD eE eF nb nd nE nF
  subst eB' eD' eE' eF'
  have hm2 : m ≤ 2000 := by omega
  have HDV := hide hdv
  have HDL := hide hDl
  have HM := hide hm
  have HJ := hide hJ
  clear hdv hDl hm hlen
  have l0 : C.a 0 < w.heap.size := Nat.lt_of_lt_of_le (D.O.lt 0 (by decide)) hJ.S.hbase
  have cT0 : w.cell? ⟨C.a 0, 0, none⟩ = some (.slice pB m capB) := cell_of_row w _ 0 _ _ _ hJ.S.hT
  clear hJ
  conv => arg 2; whnf
  go_wp2
  clear cT0
  go_loopw [127] (fun i wr => ∃ k : Nat, k ≤ m ∧ i = .int .i64 k ∧ J w0 wr C (dlvd (placed x L (.slice pB m capB)) L p (.slice pD m capD)) hb pb Q (md L p n (.slice pE m capE) (.slice pF m capF))) (fun i _ => m - (intOf i).toNat)
  case atStart => exact ⟨0, Nat.zero_le _, rfl, HJ.out⟩
  case round =>
    obtain ⟨k, hk, rfl, hj⟩ := hrel
    have l0 : C.a 0 < wr.heap.size := Nat.lt_of_lt_of_le (D.O.lt 0 (by decide)) hj.S.hbase
    by_cases hkm : k < m
    · have cT0 : wr.cell? ⟨C.a 0, 0, none⟩ = some (.slice pB m capB) := cell_of_row wr _ 0 _ _ _ hj.S.hT
      obtain ⟨gB, gE, s, q, rfl, rfl, hpk, cE0, cE1⟩ := place_at (base := C.base) L HM.out (by have := hj.S.ob; rw [show (dlvd (placed x L (.slice pB m capB)) L p (.slice pD m capD)).nb = m from HM.out.symm] at this; exact this) (by have := hj.oB; rw [show (md L p n (.slice pE m capE) (.slice pF m capF)).nB = m from HM.out.symm] at this; exact this) k hkm
      have k0 : (k : Int) < (m : Int) := by omega
      have lB : gB < wr.heap.size := World.block_lt_of_cell? wr _ (hpk 0 _ rfl)
      have lE : gE < wr.heap.size := World.block_lt_of_cell? wr _ cE0
      have cK : ∀ j u, (pkt ((k : Int) + 1) (q : Int) (s : Int))[j]? = some u → wr.cell? ⟨gB, k * 17 + j, none⟩ = some u := hpk
      have c0' : wr.cell? ⟨gB, k * 17, none⟩ = some (.int .u8 2) := cK 0 _ rfl
      have c1' := cK 1 _ rfl
      have c2' := cK 2 _ rfl
      have c3' := cK 3 _ rfl
      have c4' := cK 4 _ rfl
      have c5' := cK 5 _ rfl
      have c6' := cK 6 _ rfl
      have c7' := cK 7 _ rfl
      have c8' := cK 8 _ rfl
      have c9' := cK 9 _ rfl
      have c10' := cK 10 _ rfl
      have c11' := cK 11 _ rfl
      have c12' := cK 12 _ rfl
      have c13' := cK 13 _ rfl
      have c14' := cK 14 _ rfl
      have c15' := cK 15 _ rfl
      have c16' := cK 16 _ rfl
      have HJr := hide hj
      have wk : IntKind.u64.wrap ((k : Int) + 1) = (k : Int) + 1 := by rw [wrap_u64]; omega
      clear hpk cK hj
      go_wp2_with fail
      clear c0' c1' c2' c3' c4' c5' c6' c7' c8' c9' c10' c11' c12' c13' c14' c15' c16' cT0
      go_quiet (fail)
      go_wp2
      go_roundw
      case rel => exact ⟨k + 1, by omega, by go_num, (HJr.out.alloc D _).drewN D _⟩
      case measure => simp [intOf]; omega
    · have hkm2 : k = m := by omega
      subst hkm2
      have l1 : C.a 1 < wr.heap.size := Nat.lt_of_lt_of_le (D.O.lt 1 (by decide)) hj.S.hbase
      have cT1 : wr.cell? ⟨C.a 0, 1, none⟩ = some (.slice pD k capD) := cell_of_row wr _ 1 _ _ _ hj.S.hT
      have cP8 : wr.cell? ⟨C.a 1, 8, none⟩ = some (.int .u64 (k : Int)) := (cell_of_row wr _ 8 _ _ _ hj.S.hP).trans (by show some (Value.int .u64 (p.dv : Int)) = _; rw [HDV.out, ← HM.out])
      have r1 : RowD wr pD p.D := by
        obtain ⟨_, p', cap', e', h⟩ := rowD_of hj.S.od
        have e2 : Value.slice pD k capD = _ := e'
        rw [(Value.slice.inj e2).1]
        exact h
      have r2 : RowD wr pF p.D := by
        obtain ⟨_, p', cap', e', h⟩ := rowD_of hj.oD
        have e2 : Value.slice pF k capF = _ := e'
        rw [(Value.slice.inj e2).1]
        exact h
      have hkD : k = p.D.length := by rw [HDL.out]; exact HM.out
      have HKD := hide hkD
      have HR1 := hide r1
      have HR2 := hide r2
      have HJr := hide hj
      have wk : IntKind.u64.wrap (k : Int) = (k : Int) := by rw [wrap_u64]; omega
      clear r1 r2 hj hkD
      go_wp2_with (go_at_call 7; refine (same_any pD pF capD capF k p.D wr HKD.out (by omega) HR1.out HR2.out).mono ?_; rintro e w7 ⟨rfl, nn, rfl⟩)
      go_ret
      exact ⟨rfl, ((HJr.out.drewN D nn).kw).below (Nat.le_refl _) (fun _ h => h)⟩
end Go.Proofs.YbulkanjaFmt.Tot
