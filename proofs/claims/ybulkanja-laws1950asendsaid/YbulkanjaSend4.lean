/-
  THE WALK of group.LawS1950ASend (3): its tail, behind the call of sendLocked.
-/
import Derived.Test.YbulkanjaSend2
import Derived.Laws.OwnMore
import Derived.Conc.LoneSelectN
import Derived.Laws.BytesArg
namespace Go.Proofs.Ybulkanja.Chan
open Go.RowKit Go.Conc

/-! ### a great body, walked in parts -/
def dropSeq : Nat → Code → Code
  | 0, c => c
  | n + 1, .seq _ y => dropSeq n y
  | _, c => c
/-- The first n statements of c, and r in the place of the rest. -/
def graft : Nat → Code → Code → Code
  | 0, _, r => r
  | n + 1, .seq x y, r => .seq x (graft n y r)
  | _ + 1, c, _ => c
theorem graft_drop : ∀ (n : Nat) (c : Code), graft n c (dropSeq n c) = c
  | 0, _ => rfl
  | n + 1, c => by
    cases c with
    | seq x y => simp only [graft, dropSeq, graft_drop n y]
    | _ => rfl

theorem nil_none (l c : Nat) (wx : World) : (binOp .eql 22 (.slice none l c) (.slice none 0 0)).run Yba.prog wx = .ok (.bool true) wx := by kernel_rfl
theorem nil_some (x : Addr) (l c : Nat) (wx : World) : (binOp .eql 22 (.slice (some x) l c) (.slice none 0 0)).run Yba.prog wx = .ok (.bool false) wx := by kernel_rfl

theorem Yba.cells25 : Yba.prog.cellsOf 25 = 3 := by kernel_rfl

/-- What the call of sendLocked leaves. -/
structure After (w5 : World) (B A Mb c gg cap m n : Nat) (a0 a1 a2 : Bool) (bl : Int) (k : Nat) (xs : List Value) : Prop where
  c3 : w5.cell? ⟨A, 3, none⟩ = some (.slice (some ⟨gg, 0, none⟩) m cap)
  c4 : w5.cell? ⟨A, 4, none⟩ = some (.int .i64 bl)
  c6 : w5.cell? ⟨A, 6, none⟩ = some (.chan (some c))
  c7 : w5.cell? ⟨A, 7, none⟩ = some (.bool a0)
  c8 : w5.cell? ⟨A, 8, none⟩ = some (.bool a1)
  cS : w5.cell? ⟨Mb, 66, none⟩ = some (.bool a2)
  ch : ∃ buf s r, w5.heap[c]? = some (.chan 1 buf false s r false) ∧ buf.size = k
  own : w5.ownsRow B 25 3 (.slice (some ⟨gg, 0, none⟩) m cap) m xs
  z0 : ∀ j, j < n → xs[j * 3]? = some (.slice none 0 0)
  z1 : ∀ j, j < n → xs[j * 3 + 1]? = some (.bool false)
  z2 : ∀ j, j < n → xs[j * 3 + 2]? = some (.int .i64 (j : Int))

theorem After.at0 {w5 : World} {B A Mb c gg cap m n : Nat} {a0 a1 a2 : Bool} {bl : Int} {k : Nat} {xs : List Value} (h : After w5 B A Mb c gg cap m n a0 a1 a2 bl k xs) (hm : n ≤ m) (j : Nat) (hj : j < n) :
    w5.cell? ⟨gg, j * 3, none⟩ = some (.slice none 0 0) ∧ w5.cell? ⟨gg, j * 3 + 1, none⟩ = some (.bool false) ∧ w5.cell? ⟨gg, j * 3 + 2, none⟩ = some (.int .i64 (j : Int)) :=
  ⟨(h.own.cellAt _ (by omega)).trans (h.z0 j hj), (h.own.cellAt _ (by omega)).trans (h.z1 j hj), (h.own.cellAt _ (by omega)).trans (h.z2 j hj)⟩

theorem one_walk' (b : Bool) (w : World) :
    Calls Yba.prog 6 #[.bool b] w fun e w' => e = .returned (.int .i64 (if b then 1 else 0)) ∧ w = w' := (one_walk b w).mono fun _ _ h => ⟨h.1, h.2.symm⟩

set_option maxRecDepth 100000 in
set_option maxHeartbeats 3200000 in
theorem fin_closed (w w5 : World) (A Mb c gg cap n : Nat) (a0 a1 a2 a3 : Bool) (a4 : Int) (a5 : Option Addr) (len5 cap5 : Nat) (a6 : Bool) (a7 a8 : Int) (xs : List Value)
    (hcl : (!a0 && !a1 && !a2) = false) (H : Hid (After w5 w.heap.size A Mb c gg cap n n a0 a1 a2 a8 (if a3 then 1 else 0) xs)) (HB : Hid (Below w.heap.size w w5)) {c9 c10 c11 c12 c13 c14 c15 c16 c17 c18 c20 c21 c24 c25 c26 c27 c28 c29 c30 c31 c32 c33 c34 c35 c36 c37 c38 c39 c40 c41 c42 c43 c44 c45 c46 c47 c48 c49 c50 c51 c52 c53 c54 c55 c56 c57 c58 c59 c60 c61 c62 c63 c64 c65 c66 c67 c68 c69 c70 c71 c72 c73 c74 c75 c76 c77 c78 c79 c80 c81 c82 c83 c84 c85 c86 c87 c88 c89 c90 c91 c92 c93 c94 c95 c96 c97 c98 c99 c100 c101 c102 c103 c104 c105 c106 c107 c108 c109 c110 c111 c112 c113 c114 c115 c116 c117 c118 c119 c120 c121 c122 c123 c124 c125 c126 c127 c128 c129 c130 c131 c132 c133 c134 c135 c136 c137 c138 c139 c140 c141 c142 c143 c144 c145 c146 c147 c148 c149 c150 c151 c152 c153 c154 c155 c156 c157 c158 c159 c160 c161 c162 c163 c164 c165 c166 c167 c168 c169 c170 c171 c172 c173 c174 c175 c176 c177 c178 c179 c180 c181 c182 c183 c184 c185 c186 c187 c188 c189 c190 c191 c192 c193 c194 c195 c196 c197 c198 c199 c200 c201 c202 c203 c204 c205 c206 c207 c208 c209 c210 c211 c212 c213 c214 c215 c216 c217 c218 c219 c220 c221 c222 c223 c224 : Value} :
    Code.wp Yba.prog (dropSeq 12 (Yba.f3.body.getD .skip)) (bodyPost Yba.prog Yba.f3 (fun e w' => e = .returned (.bool true) ∧ Below w.heap.size w w')) ⟨#[.bool a0, .bool a1, .bool a2, .bool a3, .int .u8 a4, .slice a5 len5 cap5, .bool a6, .int .i64 a7, .int .i64 a8, c9, c10, c11, c12, c13, c14, c15, c16, c17, c18, .int .i64 n, c20, c21, .pointer (some ⟨A, 0, none⟩), .pointer (some ⟨Mb, 0, none⟩), c24, c25, c26, c27, c28, c29, c30, c31, c32, c33, c34, c35, c36, c37, c38, c39, c40, c41, c42, c43, c44, c45, c46, c47, c48, c49, c50, c51, c52, c53, c54, c55, c56, c57, c58, c59, c60, c61, c62, c63, c64, c65, c66, c67, c68, c69, c70, c71, c72, c73, c74, c75, c76, c77, c78, c79, c80, c81, c82, c83, c84, c85, c86, c87, c88, c89, c90, c91, c92, c93, c94, c95, c96, c97, c98, c99, c100, c101, c102, c103, c104, c105, c106, c107, c108, c109, c110, c111, c112, c113, c114, c115, c116, c117, c118, c119, c120, c121, c122, c123, c124, c125, c126, c127, c128, c129, c130, c131, c132, c133, c134, c135, c136, c137, c138, c139, c140, c141, c142, c143, c144, c145, c146, c147, c148, c149, c150, c151, c152, c153, c154, c155, c156, c157, c158, c159, c160, c161, c162, c163, c164, c165, c166, c167, c168, c169, c170, c171, c172, c173, c174, c175, c176, c177, c178, c179, c180, c181, c182, c183, c184, c185, c186, c187, c188, c189, c190, c191, c192, c193, c194, c195, c196, c197, c198, c199, c200, c201, c202, c203, c204, c205, c206, c207, c208, c209, c210, c211, c212, c213, c214, c215, c216, c217, c218, c219, c220, c221, c222, c223, c224], []⟩ w5 := by
  have h3 := H.out.c3
  have h4 := H.out.c4
  have h6 := H.out.c6
  obtain ⟨buf, s, r, hch, hbk⟩ := H.out.ch
  have hlen := run_len_chan (P := Yba.prog) 27 3 Yba.underlying27 hch
  rw [hbk] at hlen
  cases a0 <;> cases a1 <;> cases a2 <;> first | (exfalso; revert hcl; decide) | skip
  all_goals
    clear hcl
    conv => arg 2; whnf
    cases a3 <;> simp only [if_true, Bool.false_eq_true, if_false, goInt] at hlen
  all_goals
    go_wp2
    go_ret
    exact ⟨rfl, HB.out⟩

set_option maxRecDepth 100000 in
set_option maxHeartbeats 3200000 in
theorem fin_open (w w5 : World) (A Mb c gg cap n : Nat) (a3 : Bool) (a4 : Int) (a5 : Option Addr) (len5 cap5 : Nat) (a6 : Bool) (a7 a8 : Int) (xs : List Value) (str : ByteArray)
    (hn : n < 8) (H : Hid (After w5 w.heap.size A Mb c gg cap (n + 1) n false false false (wrap64 (a8 + len5)) 1 xs)) (HB : Hid (Below w.heap.size w w5))
    (hv0 : xs[n * 3]? = some (.slice a5 len5 cap5)) (hv1 : xs[n * 3 + 1]? = some (.bool a6)) (hv2 : xs[n * 3 + 2]? = some (.int .i64 a7)) (HCV : Hid (∀ wx, Below w.heap.size w wx → (convert 22 9 (.slice a5 len5 cap5)).run Yba.prog wx = .ok (.string str) wx)) {c9 c10 c11 c12 c13 c14 c15 c16 c17 c18 c20 c21 c24 c25 c26 c27 c28 c29 c30 c31 c32 c33 c34 c35 c36 c37 c38 c39 c40 c41 c42 c43 c44 c45 c46 c47 c48 c49 c50 c51 c52 c53 c54 c55 c56 c57 c58 c59 c60 c61 c62 c63 c64 c65 c66 c67 c68 c69 c70 c71 c72 c73 c74 c75 c76 c77 c78 c79 c80 c81 c82 c83 c84 c85 c86 c87 c88 c89 c90 c91 c92 c93 c94 c95 c96 c97 c98 c99 c100 c101 c102 c103 c104 c105 c106 c107 c108 c109 c110 c111 c112 c113 c114 c115 c116 c117 c118 c119 c120 c121 c122 c123 c124 c125 c126 c127 c128 c129 c130 c131 c132 c133 c134 c135 c136 c137 c138 c139 c140 c141 c142 c143 c144 c145 c146 c147 c148 c149 c150 c151 c152 c153 c154 c155 c156 c157 c158 c159 c160 c161 c162 c163 c164 c165 c166 c167 c168 c169 c170 c171 c172 c173 c174 c175 c176 c177 c178 c179 c180 c181 c182 c183 c184 c185 c186 c187 c188 c189 c190 c191 c192 c193 c194 c195 c196 c197 c198 c199 c200 c201 c202 c203 c204 c205 c206 c207 c208 c209 c210 c211 c212 c213 c214 c215 c216 c217 c218 c219 c220 c221 c222 c223 c224 : Value} :
    Code.wp Yba.prog (dropSeq 12 (Yba.f3.body.getD .skip)) (bodyPost Yba.prog Yba.f3 (fun e w' => e = .returned (.bool true) ∧ Below w.heap.size w w')) ⟨#[.bool false, .bool false, .bool false, .bool a3, .int .u8 a4, .slice a5 len5 cap5, .bool a6, .int .i64 a7, .int .i64 a8, c9, c10, c11, c12, c13, c14, c15, c16, c17, c18, .int .i64 n, c20, c21, .pointer (some ⟨A, 0, none⟩), .pointer (some ⟨Mb, 0, none⟩), c24, c25, c26, c27, c28, c29, c30, c31, c32, c33, c34, c35, c36, c37, c38, c39, c40, c41, c42, c43, c44, c45, c46, c47, c48, c49, c50, c51, c52, c53, c54, c55, c56, c57, c58, c59, c60, c61, c62, c63, c64, c65, c66, c67, c68, c69, c70, c71, c72, c73, c74, c75, c76, c77, c78, c79, c80, c81, c82, c83, c84, c85, c86, c87, c88, c89, c90, c91, c92, c93, c94, c95, c96, c97, c98, c99, c100, c101, c102, c103, c104, c105, c106, c107, c108, c109, c110, c111, c112, c113, c114, c115, c116, c117, c118, c119, c120, c121, c122, c123, c124, c125, c126, c127, c128, c129, c130, c131, c132, c133, c134, c135, c136, c137, c138, c139, c140, c141, c142, c143, c144, c145, c146, c147, c148, c149, c150, c151, c152, c153, c154, c155, c156, c157, c158, c159, c160, c161, c162, c163, c164, c165, c166, c167, c168, c169, c170, c171, c172, c173, c174, c175, c176, c177, c178, c179, c180, c181, c182, c183, c184, c185, c186, c187, c188, c189, c190, c191, c192, c193, c194, c195, c196, c197, c198, c199, c200, c201, c202, c203, c204, c205, c206, c207, c208, c209, c210, c211, c212, c213, c214, c215, c216, c217, c218, c219, c220, c221, c222, c223, c224], []⟩ w5 := by
  have h3 := H.out.c3
  have h4 := H.out.c4
  have h6 := H.out.c6
  have cells25 := Yba.cells25
  obtain ⟨buf, s, r, hch, hbk⟩ := H.out.ch
  have lc : c < w5.heap.size := (Array.getElem?_eq_some_iff.1 hch).1
  have lA := World.block_lt_of_cell? w5 _ h3
  have hlen := run_len_chan (P := Yba.prog) 27 3 Yba.underlying27 ((Below.heap_alloc w5 (.cells #[.slice a5 len5 cap5, .bool a6, .int .i64 a7] 25) _ lc).trans hch)
  rw [hbk] at hlen
  simp only [goInt] at hlen
  have HBA := hide (HB.out.alloc HB.out.size (.cells #[.slice a5 len5 cap5, .bool a6, .int .i64 a7] 25))
  have hcv := HCV.out _ HBA.out
  have e0 := (H.out.own.cellAt (n * 3) (by omega)).trans hv0
  have e1 := (H.out.own.cellAt (n * 3 + 1) (by omega)).trans hv1
  have e2 := (H.out.own.cellAt (n * 3 + 2) (by omega)).trans hv2
  clear hv0 hv1 hv2 hch hbk
  rcases a5 with _ | x5
  · have hnil := nil_none len5 cap5
    conv => arg 2; whnf
    go_wp2
    go_ret
    exact ⟨rfl, HBA.out⟩
  · have hnil := nil_some x5 len5 cap5
    conv => arg 2; whnf
    go_wp2
    go_ret
    exact ⟨rfl, HBA.out⟩

set_option maxRecDepth 100000 in
set_option maxHeartbeats 3200000 in
theorem tail (w w5 : World) (A Mb c gg cap m n : Nat) (a0 a1 a2 a3 : Bool) (a4 : Int) (a5 : Option Addr) (len5 cap5 : Nat) (a6 : Bool) (a7 a8 : Int) (bl : Int) (k : Nat) (xs : List Value) (str : ByteArray)
    (hn : n < 8) (hm : n ≤ m) (hm2 : m < 10) (H : Hid (After w5 w.heap.size A Mb c gg cap m n a0 a1 a2 bl k xs)) (HB : Hid (Below w.heap.size w w5))
    (HC : Hid ((!a0 && !a1 && !a2) = false → m = n ∧ bl = a8 ∧ k = (if a3 then 1 else 0)))
    (HO : Hid ((!a0 && !a1 && !a2) = true → m = n + 1 ∧ bl = wrap64 (a8 + len5) ∧ k = 1 ∧ xs[n * 3]? = some (.slice a5 len5 cap5) ∧ xs[n * 3 + 1]? = some (.bool a6) ∧ xs[n * 3 + 2]? = some (.int .i64 a7)))
    (HCV : Hid (∀ wx, Below w.heap.size w wx → (convert 22 9 (.slice a5 len5 cap5)).run Yba.prog wx = .ok (.string str) wx)) {c9 c10 c11 c12 c13 c14 c15 c16 c17 c18 c20 c21 c24 c25 c26 c27 c28 c29 c30 c31 c32 c33 c34 c35 c36 c37 c38 c39 c40 c41 c42 c43 c44 c45 c46 c47 c48 c49 c50 c51 c52 c53 c54 c55 c56 c57 c58 c59 c60 c61 c62 c63 c64 c65 c66 c67 c68 c69 c70 c71 c72 c73 c74 c75 c76 c77 c78 c79 c80 c81 c82 c83 c84 c85 c86 c87 c88 c89 c90 c91 c92 c93 c94 c95 c96 c97 c98 c99 c100 c101 c102 c103 c104 c105 c106 c107 c108 c109 c110 c111 c112 c113 c114 c115 c116 c117 c118 c119 c120 c121 c122 c123 c124 c125 c126 c127 c128 c129 c130 c131 c132 c133 c134 c135 c136 c137 c138 c139 c140 c141 c142 c143 c144 c145 c146 c147 c148 c149 c150 c151 c152 c153 c154 c155 c156 c157 c158 c159 c160 c161 c162 c163 c164 c165 c166 c167 c168 c169 c170 c171 c172 c173 c174 c175 c176 c177 c178 c179 c180 c181 c182 c183 c184 c185 c186 c187 c188 c189 c190 c191 c192 c193 c194 c195 c196 c197 c198 c199 c200 c201 c202 c203 c204 c205 c206 c207 c208 c209 c210 c211 c212 c213 c214 c215 c216 c217 c218 c219 c220 c221 c222 c223 c224 : Value} :
    Code.wp Yba.prog (dropSeq 9 (Yba.f3.body.getD .skip)) (bodyPost Yba.prog Yba.f3 (fun e w' => e = .returned (.bool true) ∧ Below w.heap.size w w')) ⟨#[.bool a0, .bool a1, .bool a2, .bool a3, .int .u8 a4, .slice a5 len5 cap5, .bool a6, .int .i64 a7, .int .i64 a8, c9, c10, c11, c12, c13, c14, c15, c16, c17, c18, .int .i64 n, c20, c21, .pointer (some ⟨A, 0, none⟩), .pointer (some ⟨Mb, 0, none⟩), c24, c25, c26, c27, c28, c29, c30, c31, c32, c33, c34, c35, c36, c37, c38, c39, c40, c41, c42, c43, c44, c45, c46, c47, c48, c49, c50, c51, c52, c53, c54, c55, c56, c57, c58, c59, c60, c61, c62, c63, c64, c65, c66, c67, c68, c69, c70, c71, c72, c73, c74, c75, c76, c77, c78, c79, c80, c81, c82, c83, c84, c85, c86, c87, c88, c89, c90, c91, c92, c93, c94, c95, c96, c97, c98, c99, c100, c101, c102, c103, c104, c105, c106, c107, c108, c109, c110, c111, c112, c113, c114, c115, c116, c117, c118, c119, c120, c121, c122, c123, c124, c125, c126, c127, c128, c129, c130, c131, c132, c133, c134, c135, c136, c137, c138, c139, c140, c141, c142, c143, c144, c145, c146, c147, c148, c149, c150, c151, c152, c153, c154, c155, c156, c157, c158, c159, c160, c161, c162, c163, c164, c165, c166, c167, c168, c169, c170, c171, c172, c173, c174, c175, c176, c177, c178, c179, c180, c181, c182, c183, c184, c185, c186, c187, c188, c189, c190, c191, c192, c193, c194, c195, c196, c197, c198, c199, c200, c201, c202, c203, c204, c205, c206, c207, c208, c209, c210, c211, c212, c213, c214, c215, c216, c217, c218, c219, c220, c221, c222, c223, c224], []⟩ w5 := by
  have h3 := H.out.c3
  have h7 := H.out.c7
  have h8 := H.out.c8
  have hS := H.out.cS
  have cells25 := Yba.cells25
  have hnm : ¬ ((m : Int) < (n : Int)) := by omega
  have e9 : dropSeq 9 (Yba.f3.body.getD .skip) = graft 3 (dropSeq 9 (Yba.f3.body.getD .skip)) (dropSeq 12 (Yba.f3.body.getD .skip)) := (graft_drop 3 (dropSeq 9 (Yba.f3.body.getD .skip))).symm
  rw [e9]
  generalize hR : dropSeq 12 (Yba.f3.body.getD .skip) = R
  have HR := hide hR
  clear hR e9
  conv => arg 2; arg 2; whnf
  simp only [graft]
  go_wp2
  go_loop [24] (fun i => ∃ j : Nat, j ≤ n ∧ i = .int .i64 j) (fun i => n - (intOf i).toNat)
  case atStart => exact ⟨0, Nat.zero_le _, rfl⟩
  case round =>
    obtain ⟨j, hj, rfl⟩ := hrel
    by_cases hlt : j < n
    · have j0 : (j : Int) < (n : Int) := by omega
      have j1 : (j : Int) < (m : Int) := by omega
      have j2 : j < m := by omega
      obtain ⟨z0, z1, z2⟩ := H.out.at0 hm j hlt
      go_wp2
      refine ⟨⟨j + 1, by omega, by go_num⟩, ?_⟩
      simp [intOf]
      omega
    · have hjn : j = n := by omega
      subst hjn
      go_wp2_with fail
      rw [← HR.out]
      cases hcl : (!a0 && !a1 && !a2)
      · obtain ⟨rfl, rfl, rfl⟩ := HC.out hcl
        exact fin_closed w w5 A Mb c gg cap _ a0 a1 a2 a3 a4 a5 len5 cap5 a6 a7 _ xs hcl H HB
      · obtain ⟨rfl, rfl, rfl, v0, v1, v2⟩ := HO.out hcl
        obtain ⟨rfl, rfl, rfl⟩ : a0 = false ∧ a1 = false ∧ a2 = false := by
          revert hcl
          cases a0 <;> cases a1 <;> cases a2 <;> decide
        exact fin_open w w5 A Mb c gg cap _ a3 a4 a5 len5 cap5 a6 a7 a8 xs str hn H HB v0 v1 v2 HCV
end Go.Proofs.Ybulkanja.Chan
