/-
  THE END of ordering.LawS1950CPlace: the checks behind the two counts, and the last loop.
-/
import Derived.Test.YbulkanjaPlaceBase
namespace Go.Proofs.Ybulkanja.Place
open Go.RowKit Go.Maps Go.Proofs.Ybulkanja.MapsF Go.Proofs.Ybulkanja.Orders
set_option linter.unusedVariables false

set_option maxRecDepth 100000 in
set_option maxHeartbeats 3200000 in
theorem law_end (w w4 : World) (T Pb Hb Lb Mb mh base s os qs i : Nat) (start given : Int) (ov : Value) (nH szH : Nat) (MH : Lit → Option Value)
    (HWS : Hid (0 ≤ start ∧ start < 18446744073709551616)) (HWG : Hid (0 ≤ given ∧ given < 18446744073709551616)) (s3 : s < 3) (o3 : os < 3) (q3 : qs < 3) (so : s ≠ os) (sq : s ≠ qs) (hc255 : i ≤ 255) (HB4 : Hid (Below w.heap.size w w4))
    (HS4 : Hid (PS w4 T Pb Hb Lb Mb mh base s start (seqU start i) (seqU given i) ov i (pks given start s i) nH szH MH i (MPs given start s i))) {c0 c3 c4 c5 c6 c7 c8 c12 c13 c14 c18 c19 c20 c21 c22 c23 c24 c25 c26 c27 c28 c29 c30 c31 c32 c33 c34 c35 c36 c37 c38 c39 c40 c41 c42 c43 c44 c45 c46 c47 c48 c49 c50 c51 c52 c53 c54 c55 c56 c57 c58 c59 c60 c61 c62 c63 c64 c65 c66 c67 c68 c69 c70 c71 c72 c73 c74 c75 c76 c77 c78 c79 c80 c81 c82 c83 c84 c85 c86 c87 c88 c89 c90 c91 c92 c93 c94 c95 c96 c97 c98 c99 c100 c101 c102 c103 c104 c105 c106 c107 c108 c109 c110 c111 c112 c113 c114 c115 c116 c117 c118 c119 c120 c121 c122 c123 c124 c125 c126 c127 c128 c129 c130 c131 c132 c133 c134 c135 c136 c137 c138 c139 c140 c141 c142 c143 c144 c145 c146 c147 c148 c149 c150 c151 c152 c153 c154 c155 c156 c157 c158 c159 c160 c161 c162 c163 c164 c165 c166 c167 c168 c169 c170 c171 c172 c173 c174 c175 c176 c177 c178 c179 c180 c181 c182 c183 c184 c185 c186 c187 c188 c189 c190 c191 c192 c193 c194 c195 c196 c197 c198 c199 c200 c201 c202 c203 c204 c205 c206 c207 c208 c209 c210 c211 c212 c213 c214 c215 c216 c217 c218 c219 c220 c221 c222 c223 c224 c225 c226 c227 c228 c229 c230 c231 c232 c233 c234 c235 c236 c237 : Value} :
    Code.wp Yba.prog (dropSeq 13 (Yba.f4.body.getD .skip)) (bodyPost Yba.prog Yba.f4 (fun e w' => e = .returned (.bool true) ∧ Below w.heap.size w w')) ⟨#[c0, .int .u64 start, .int .u64 given, c3, c4, c5, c6, c7, c8, .int .i64 s, .int .i64 os, .int .i64 qs, c12, c13, c14, .pointer (some ⟨T, 0, none⟩), .pointer (some ⟨Pb, 0, none⟩), .int .u64 i, c18, c19, c20, c21, c22, c23, c24, c25, c26, c27, c28, c29, c30, c31, c32, c33, c34, c35, c36, c37, c38, c39, c40, c41, c42, c43, c44, c45, c46, c47, c48, c49, c50, c51, c52, c53, c54, c55, c56, c57, c58, c59, c60, c61, c62, c63, c64, c65, c66, c67, c68, c69, c70, c71, c72, c73, c74, c75, c76, c77, c78, c79, c80, c81, c82, c83, c84, c85, c86, c87, c88, c89, c90, c91, c92, c93, c94, c95, c96, c97, c98, c99, c100, c101, c102, c103, c104, c105, c106, c107, c108, c109, c110, c111, c112, c113, c114, c115, c116, c117, c118, c119, c120, c121, c122, c123, c124, c125, c126, c127, c128, c129, c130, c131, c132, c133, c134, c135, c136, c137, c138, c139, c140, c141, c142, c143, c144, c145, c146, c147, c148, c149, c150, c151, c152, c153, c154, c155, c156, c157, c158, c159, c160, c161, c162, c163, c164, c165, c166, c167, c168, c169, c170, c171, c172, c173, c174, c175, c176, c177, c178, c179, c180, c181, c182, c183, c184, c185, c186, c187, c188, c189, c190, c191, c192, c193, c194, c195, c196, c197, c198, c199, c200, c201, c202, c203, c204, c205, c206, c207, c208, c209, c210, c211, c212, c213, c214, c215, c216, c217, c218, c219, c220, c221, c222, c223, c224, c225, c226, c227, c228, c229, c230, c231, c232, c233, c234, c235, c236, c237], []⟩ w4 := by
  have s3' : (s : Int) < 3 := by omega
  have o3' : (os : Int) < 3 := by omega
  have q3' : (qs : Int) < 3 := by omega
  obtain ⟨ao, cp, hov⟩ := own_form HS4.out.own
  subst hov
  obtain ⟨gg, hcell, hidx⟩ := own_cells HS4.out.own
  have HCL := hide hcell
  have HIX := hide hidx
  obtain ⟨cT0, cT1, fT, own, cP2, cP6, cP7, cP11, fP11, cP12, cH, hH, cL, cL', fL, hM, _⟩ := HS4.out
  have clo := cL' os o3 so.symm
  have clq := cL' qs q3 sq.symm
  have hlen := fun ty => hM.len (t := 91) (e := 101) Yba.underlying91 ty
  have HM4 := hide hM
  have d1 : (seqU start i != IntKind.u64.wrap (start + (i : Int))) = false := by rw [seqU_eq HWS.out]; simp
  have d2 : (seqU given i != IntKind.u64.wrap (given + (i : Int))) = false := by rw [seqU_eq HWG.out]; simp
  have d3 : (start != start) = false := by simp
  have d4 : ((i : Int) != (i : Int)) = false := by simp
  have d5 : ((0 : Int) != 0) = false := by simp
  clear own hH hM cL' fT fP11 fL cH cP2 cP6 hcell hidx
  conv => arg 2; whnf
  go_wp2_with fail
  clear hlen d1 d2 d3 d4 cL clo clq cP11 cP12 cT1
  have cP7' := cP7
  have cT0' := cT0
  have HP7 := hide cP7'
  have HT0 := hide cT0'
  clear cP7 cT0 cP7' cT0'
  go_loopw [18] (fun t wr => ∃ m : Nat, 1 ≤ m ∧ m ≤ i + 1 ∧ t = .int .u64 m ∧ Below w4.heap.size w4 wr) (fun t _ => i + 1 - (intOf t).toNat)
  case atStart => exact ⟨1, by omega, by omega, rfl, Below.refl _ _⟩
  case round =>
    obtain ⟨m, hm1, hm2, rfl, hBr⟩ := hrel
    by_cases hmi : m ≤ i
    · have cP7 := (hBr.cell (p := ⟨Pb, 7, none⟩) (World.block_lt_of_cell? w4 _ HP7.out)).trans HP7.out
      have cT0 := (hBr.cell (p := ⟨T, 0, none⟩) (World.block_lt_of_cell? w4 _ HT0.out)).trans HT0.out
      have hTr : T < wr.heap.size := World.block_lt_of_cell? wr _ cT0
      have hmi' : (m : Int) ≤ (i : Int) := by omega
      have hlk := (HM4.out.below hBr HM4.out.lt).look law30 (t := 91) (e := 101) Yba.underlying91 (zero101 wr) (key_wrap (given + (m : Int)))
      rw [MPs_at HWG.out HWS.out s i m hm1 hmi (by omega)] at hlk
      simp only [Option.getD_some, Option.isSome_some] at hlk
      have hw3 : IntKind.u64.wrap ((m : Int) - 1) = ((m - 1 : Nat) : Int) := by rw [wrap_u64]; omega
      have hw4 : IntKind.u64.wrap ((m : Int) + 1) = (m : Int) + 1 := by rw [wrap_u64]; omega
      have hix := HIX.out (m - 1) (by omega)
      have hpk : ∀ j, j < 17 → wr.cell? ⟨gg, (m - 1) * 17 + j, none⟩ = (pkt (IntKind.u64.wrap (given + (m : Int))) (IntKind.u64.wrap (start + (m : Int))) s)[j]? := fun j hj => by
        have h1 := HCL.out ((m - 1) * 17 + j) (by omega)
        rw [hBr.cell (p := ⟨gg, (m - 1) * 17 + j, none⟩) h1.1, h1.2, pks_at HWG.out HWS.out s i (m - 1) j (by omega) hj, show ((m - 1 + 1 : Nat) : Int) = (m : Int) by omega]
      have hgg : gg < wr.heap.size := by
        have h1 := HCL.out ((m - 1) * 17) (by omega)
        have := hBr.size
        omega
      have x0 : wr.cell? ⟨gg, (m - 1) * 17, none⟩ = some (.int .u8 2) := hpk 0 (by decide)
      have x1 : wr.cell? ⟨gg, (m - 1) * 17 + 1, none⟩ = some (.int .u64 (IntKind.u64.wrap (start + (m : Int)))) := hpk 1 (by decide)
      have x2 : wr.cell? ⟨gg, (m - 1) * 17 + 2, none⟩ = some (.int .i64 s) := hpk 2 (by decide)
      have x3 : wr.cell? ⟨gg, (m - 1) * 17 + 3, none⟩ = some (.int .u64 (IntKind.u64.wrap (given + (m : Int)))) := hpk 3 (by decide)
      have x4 : wr.cell? ⟨gg, (m - 1) * 17 + 4, none⟩ = some (.int .u64 0) := hpk 4 (by decide)
      have x5 : wr.cell? ⟨gg, (m - 1) * 17 + 5, none⟩ = some (.slice none 0 0) := hpk 5 (by decide)
      have x6 : wr.cell? ⟨gg, (m - 1) * 17 + 6, none⟩ = some (.slice none 0 0) := hpk 6 (by decide)
      have x7 : wr.cell? ⟨gg, (m - 1) * 17 + 7, none⟩ = some (.slice none 0 0) := hpk 7 (by decide)
      have x8 : wr.cell? ⟨gg, (m - 1) * 17 + 8, none⟩ = some (.slice none 0 0) := hpk 8 (by decide)
      have x9 : wr.cell? ⟨gg, (m - 1) * 17 + 9, none⟩ = some (.slice none 0 0) := hpk 9 (by decide)
      have x10 : wr.cell? ⟨gg, (m - 1) * 17 + 10, none⟩ = some (.slice none 0 0) := hpk 10 (by decide)
      have x11 : wr.cell? ⟨gg, (m - 1) * 17 + 11, none⟩ = some (.slice none 0 0) := hpk 11 (by decide)
      have x12 : wr.cell? ⟨gg, (m - 1) * 17 + 12, none⟩ = some (.int .u64 0) := hpk 12 (by decide)
      have x13 : wr.cell? ⟨gg, (m - 1) * 17 + 13, none⟩ = some (.int .u64 0) := hpk 13 (by decide)
      have x14 : wr.cell? ⟨gg, (m - 1) * 17 + 14, none⟩ = some (.slice none 0 0) := hpk 14 (by decide)
      have x15 : wr.cell? ⟨gg, (m - 1) * 17 + 15, none⟩ = some (.slice none 0 0) := hpk 15 (by decide)
      have x16 : wr.cell? ⟨gg, (m - 1) * 17 + 16, none⟩ = some (.slice none 0 0) := hpk 16 (by decide)
      clear hpk
      have hneq := fun wx => neq101 (s : Int) (IntKind.u64.wrap (start + (m : Int))) wx
      have t2 := fun wx => run_neq_slice_nil_any (P := Yba.prog) wx 22 _ none 0 0 0 0 Yba.underlying22
      have t3 := fun wx => run_neq_slice_nil_any (P := Yba.prog) wx 92 _ none 0 0 0 0 Yba.underlying92
      have u1 : ((2 : Int) != 2) = false := by simp
      have u2 : (IntKind.u64.wrap (given + (m : Int)) != IntKind.u64.wrap (given + (m : Int))) = false := by simp
      have u3 : (IntKind.u64.wrap (start + (m : Int)) != IntKind.u64.wrap (start + (m : Int))) = false := by simp
      have u4 : ((s : Int) != (s : Int)) = false := by simp
      have HBR := hide hBr
      clear hBr
      go_wp2
      go_roundw
      case rel => exact ⟨m + 1, by omega, by omega, by go_num, (HBR.out.alloc HBR.out.size _).alloc (by have := HBR.out.size; simp; omega) _⟩
      case measure => simp [intOf]; omega
    · have hmi' : ¬ (m : Int) ≤ (i : Int) := by omega
      go_wp2
      go_ret
      exact ⟨rfl, HB4.out.trans (hBr.mono HB4.out.size)⟩
end Go.Proofs.Ybulkanja.Place
