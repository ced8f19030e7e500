/-
  THE MIDDLE of ordering.LawS1950CPlace: the count by the list of numbers (loop 2).
-/
import Derived.Test.YbulkanjaPlaceEnd
namespace Go.Proofs.Ybulkanja.Place
open Go.RowKit Go.Maps Go.Proofs.Ybulkanja.MapsF Go.Proofs.Ybulkanja.Orders
set_option linter.unusedVariables false

set_option maxRecDepth 100000 in
set_option maxHeartbeats 3200000 in
theorem law_mid (w w4 : World) (a : Option Addr) (k cap b o : Nat) (x : Nat → Int) (T Pb Hb Lb Mb mh base s os qs c : Nat) (start given : Int) (ov : Value) (nH szH : Nat) (MH : Lit → Option Value)
    (HWS : Hid (0 ≤ start ∧ start < 18446744073709551616)) (HWG : Hid (0 ≤ given ∧ given < 18446744073709551616)) (s3 : s < 3) (o3 : os < 3) (q3 : qs < 3) (so : s ≠ os) (sq : s ≠ qs) (hc255 : c ≤ 255) (HB4 : Hid (Below w.heap.size w w4)) (hl : k ≤ 1024) (HN4 : Hid (Nums w4 a k cap b o x))
    (hcl : c ≤ k) (HIN : Hid (∀ j : Nat, j < c → hasN x ((j + 1 : Nat) : Int) k = true)) (HNOT : Hid (hasN x ((c + 1 : Nat) : Int) k = false))
    (HS4 : Hid (PS w4 T Pb Hb Lb Mb mh base s start (seqU start c) (seqU given c) ov c (pks given start s c) nH szH MH c (MPs given start s c))) {c3 c4 c5 c6 c7 c8 c12 c13 c14 c17 c18 c19 c20 c21 c22 c23 c24 c25 c26 c27 c28 c29 c30 c31 c32 c33 c34 c35 c36 c37 c38 c39 c40 c41 c42 c43 c44 c45 c46 c47 c48 c49 c50 c51 c52 c53 c54 c55 c56 c57 c58 c59 c60 c61 c62 c63 c64 c65 c66 c67 c68 c69 c70 c71 c72 c73 c74 c75 c76 c77 c78 c79 c80 c81 c82 c83 c84 c85 c86 c87 c88 c89 c90 c91 c92 c93 c94 c95 c96 c97 c98 c99 c100 c101 c102 c103 c104 c105 c106 c107 c108 c109 c110 c111 c112 c113 c114 c115 c116 c117 c118 c119 c120 c121 c122 c123 c124 c125 c126 c127 c128 c129 c130 c131 c132 c133 c134 c135 c136 c137 c138 c139 c140 c141 c142 c143 c144 c145 c146 c147 c148 c149 c150 c151 c152 c153 c154 c155 c156 c157 c158 c159 c160 c161 c162 c163 c164 c165 c166 c167 c168 c169 c170 c171 c172 c173 c174 c175 c176 c177 c178 c179 c180 c181 c182 c183 c184 c185 c186 c187 c188 c189 c190 c191 c192 c193 c194 c195 c196 c197 c198 c199 c200 c201 c202 c203 c204 c205 c206 c207 c208 c209 c210 c211 c212 c213 c214 c215 c216 c217 c218 c219 c220 c221 c222 c223 c224 c225 c226 c227 c228 c229 c230 c231 c232 c233 c234 c235 c236 c237 : Value} :
    Code.wp Yba.prog (dropSeq 11 (Yba.f4.body.getD .skip)) (bodyPost Yba.prog Yba.f4 (fun e w' => e = .returned (.bool true) ∧ Below w.heap.size w w')) ⟨#[.slice a k cap, .int .u64 start, .int .u64 given, c3, c4, c5, c6, c7, c8, .int .i64 s, .int .i64 os, .int .i64 qs, c12, c13, c14, .pointer (some ⟨T, 0, none⟩), .pointer (some ⟨Pb, 0, none⟩), c17, c18, c19, c20, c21, c22, c23, c24, c25, c26, c27, c28, c29, c30, c31, c32, c33, c34, c35, c36, c37, c38, c39, c40, c41, c42, c43, c44, c45, c46, c47, c48, c49, c50, c51, c52, c53, c54, c55, c56, c57, c58, c59, c60, c61, c62, c63, c64, c65, c66, c67, c68, c69, c70, c71, c72, c73, c74, c75, c76, c77, c78, c79, c80, c81, c82, c83, c84, c85, c86, c87, c88, c89, c90, c91, c92, c93, c94, c95, c96, c97, c98, c99, c100, c101, c102, c103, c104, c105, c106, c107, c108, c109, c110, c111, c112, c113, c114, c115, c116, c117, c118, c119, c120, c121, c122, c123, c124, c125, c126, c127, c128, c129, c130, c131, c132, c133, c134, c135, c136, c137, c138, c139, c140, c141, c142, c143, c144, c145, c146, c147, c148, c149, c150, c151, c152, c153, c154, c155, c156, c157, c158, c159, c160, c161, c162, c163, c164, c165, c166, c167, c168, c169, c170, c171, c172, c173, c174, c175, c176, c177, c178, c179, c180, c181, c182, c183, c184, c185, c186, c187, c188, c189, c190, c191, c192, c193, c194, c195, c196, c197, c198, c199, c200, c201, c202, c203, c204, c205, c206, c207, c208, c209, c210, c211, c212, c213, c214, c215, c216, c217, c218, c219, c220, c221, c222, c223, c224, c225, c226, c227, c228, c229, c230, c231, c232, c233, c234, c235, c236, c237], []⟩ w4 := by
  have e11 : dropSeq 11 (Yba.f4.body.getD .skip) = graft 2 (dropSeq 11 (Yba.f4.body.getD .skip)) (dropSeq 13 (Yba.f4.body.getD .skip)) := (graft_drop 2 (dropSeq 11 (Yba.f4.body.getD .skip))).symm
  rw [e11]
  generalize hR : dropSeq 13 (Yba.f4.body.getD .skip) = R
  have HR := hide hR
  clear hR e11
  conv => arg 2; arg 2; whnf
  simp only [graft]
  go_wp2_with fail
  go_loop [17] (fun t => ∃ i : Nat, i ≤ c ∧ t = .int .u64 i) (fun t => c - (intOf t).toNat)
  case atStart => exact ⟨0, Nat.zero_le _, rfl⟩
  case round =>
    obtain ⟨i, hi, rfl⟩ := hrel
    have hw1 : IntKind.u64.wrap ((i : Int) + 1) = (i : Int) + 1 := by rw [wrap_u64]; omega
    by_cases hic : i < c
    · have hik : (i : Int) < (k : Int) := by omega
      have hyes : hasN x ((i : Int) + 1) k = true := HIN.out i hic
      go_wp2_with (go_at_call 9; refine (has_any a k cap b o x _ w4 hl HN4.out).mono ?_; rintro e w' ⟨rfl, rfl⟩)
      go_round
      case rel => exact ⟨i + 1, by omega, by go_num⟩
      case measure => simp [intOf]; omega
    · have hie : i = c := by omega
      subst hie
      have hno : hasN x ((i : Int) + 1) k = false := HNOT.out
      by_cases hik : (i : Int) < (k : Int)
      · go_wp2_with (go_at_call 9; refine (has_any a k cap b o x _ w4 hl HN4.out).mono ?_; rintro e w' ⟨rfl, rfl⟩)
        rw [← HR.out]
        exact law_end w w4 T Pb Hb Lb Mb mh base s os qs i start given ov nH szH MH HWS HWG s3 o3 q3 so sq hc255 HB4 HS4
      · go_wp2_with fail
        rw [← HR.out]
        exact law_end w w4 T Pb Hb Lb Mb mh base s os qs i start given ov nH szH MH HWS HWG s3 o3 q3 so sq hc255 HB4 HS4
end Go.Proofs.Ybulkanja.Place
