/-
  THE WALK of group.LawS1950ASend (3).
-/
import Derived.Test.YbulkanjaSend4
namespace Go.Proofs.Ybulkanja.Chan
open Go.RowKit Go.Conc

/-- The row of the frames queued before: 'i' of the 'n' are filled. -/
structure RowQ (w : World) (base Qb cap n i : Nat) (xs : List Value) : Prop where
  own : w.ownsRow base 25 3 (.slice (some ⟨Qb, 0, none⟩) n cap) n xs
  z0 : ∀ j, j < n → xs[j * 3]? = some (.slice none 0 0)
  z1 : ∀ j, j < n → xs[j * 3 + 1]? = some (.bool false)
  z2 : ∀ j, j < i → xs[j * 3 + 2]? = some (.int .i64 (j : Int))

theorem rowq_made {w : World} {base Qb cap n : Nat} (h : w.ownsRow base 25 3 (.slice (some ⟨Qb, 0, none⟩) n cap) n (madeCells (Value.cells (.agg #[.slice none 0 0, .bool false, .int .i64 0])) (n * 3)).toList) : RowQ w base Qb cap n 0 (madeCells (Value.cells (.agg #[.slice none 0 0, .bool false, .int .i64 0])) (n * 3)).toList := by
  refine ⟨h, ?_, ?_, fun j hj => absurd hj (Nat.not_lt_zero _)⟩
  · intro j hj
    have h1 : j * 3 < n * 3 := by omega
    have h2 : j * 3 % 3 = 0 := by omega
    simp [madeCells, Value.cells, h1, h2]
  · intro j hj
    have h1 : j * 3 + 1 < n * 3 := by omega
    have h2 : (j * 3 + 1) % 3 = 1 := by omega
    simp [madeCells, Value.cells, h1, h2]

theorem rowq_stored {w : World} {base Qb cap n i : Nat} {xs : List Value} (h : RowQ w base Qb cap n i xs) (hi : i < n) :
    RowQ (((w.setCell ⟨Qb, i * 3, none⟩ (.slice none 0 0)).setCell ⟨Qb, i * 3 + 1, none⟩ (.bool false)).setCell ⟨Qb, i * 3 + 2, none⟩ (.int .i64 (i : Int))) base Qb cap n (i + 1) (((xs.set (i * 3) (.slice none 0 0)).set (i * 3 + 1) (.bool false)).set (i * 3 + 2) (.int .i64 (i : Int))) := by
  have hlen : xs.length = n * 3 := h.own.1
  refine ⟨((((h.own.stored _ _).1.stored _ _).1).stored _ _).1, ?_, ?_, ?_⟩
  · intro j hj
    have := h.z0 j hj
    simp only [List.getElem?_set, List.length_set]
    repeat' split
    all_goals first | omega | assumption | rfl
  · intro j hj
    have := h.z1 j hj
    simp only [List.getElem?_set, List.length_set]
    repeat' split
    all_goals first | omega | assumption | rfl
  · intro j hj
    simp only [List.getElem?_set, List.length_set]
    by_cases hji : j = i
    · subst hji
      rw [if_pos rfl, if_pos (by omega)]
    · have := h.z2 j (by omega)
      repeat' split
      all_goals first | omega | assumption | rfl

theorem mkchan (wx : World) : (Instr.makeChan 27 (.int .i64 1)).run Yba.prog wx = .ok (.chan (some wx.heap.size)) (wx.alloc (.chan 1 #[] false 0 0 false)) := by
  obtain ⟨i, hi, hb⟩ := Yba.bytes39
  exact run_makeChan Yba.underlying27 hi .i64 1 (by omega) (by rw [hb]; decide)


theorem oper_value {P : Program} {o : Oper} {a : Act} {w w' : World} {K : Act → World → Prop} {Q : Exit → Act → World → Prop} {v : Value} (h : (execOp a.eval o).run P w = .ok (.value v) w') (hk : K (a.put o.dst v) w') : Oper.wp P o a w K Q := by
  unfold Oper.wp
  rw [h]
  exact hk

theorem exec_build {P : Program} {ρ : Operand → Value} {o : Oper} {t : TypeId} {i : Nat} {x : Operand} {u : Value} {cs : Array Value} {w : World} (ho : o.op = .build t #[(i, x)]) (hx : ρ x = u) (h : (Instr.build t #[(i, u)]).run P w = .ok (.agg cs) w) : (execOp ρ o).run P w = .ok (.value (.agg cs)) w := by
  subst hx
  simp [execOp, ho, h]

theorem mem79 (b : Bool) : ∃ cs : Array Value, cs[66]? = some (.bool b) ∧ ∀ wx : World, (Instr.build 79 #[(29, .bool b)]).run Yba.prog wx = .ok (.agg cs) wx ∧ (Instr.box 79 (.agg cs)).run Yba.prog wx = .ok (.pointer (some ⟨wx.heap.size, 0, none⟩)) (wx.alloc (.cells cs 79)) :=
  ⟨(Yba.prog.built 79 [(29, .bool b)]).getD #[], by cases b <;> kernel_rfl, fun wx => ⟨run_build wx 79 _ _ (by cases b <;> kernel_rfl), by cases b <;> kernel_rfl⟩⟩
/-- sendLocked, whatever the flags. -/
theorem send_any (w W : World) (Mb A c n : Nat) (a0 a1 a2 a3 : Bool) (a5 : Option Addr) (len5 cap5 : Nat) (a6 : Bool) (a7 a8 : Int) (xs : List Value) (buf : Array Value) (s r : Nat)
    (hn : n < 8) (h3 : W.cell? ⟨A, 3, none⟩ = some (.slice (some ⟨w.heap.size, 0, none⟩) n n)) (h4 : W.cell? ⟨A, 4, none⟩ = some (.int .i64 a8)) (h6 : W.cell? ⟨A, 6, none⟩ = some (.chan (some c))) (h7 : W.cell? ⟨A, 7, none⟩ = some (.bool a0)) (h8 : W.cell? ⟨A, 8, none⟩ = some (.bool a1)) (hS : W.cell? ⟨Mb, 66, none⟩ = some (.bool a2))
    (f3 : W.frozen? ⟨A, 3, none⟩ = false) (f4 : W.frozen? ⟨A, 4, none⟩ = false) (hch : W.heap[c]? = some (.chan 1 buf false s r false)) (hbuf : buf = if a3 then #[.agg #[]] else #[]) (HQ : RowQ W w.heap.size w.heap.size n n n xs) (hBA : w.heap.size < A) (hBc : w.heap.size < c) (hBM : w.heap.size < Mb) (hMA : Mb ≠ A) (HB : Below w.heap.size w W) :
    Calls Yba.prog 5 #[.pointer (some ⟨Mb, 0, none⟩), .pointer (some ⟨A, 0, none⟩), .agg #[.slice a5 len5 cap5, .bool a6, .int .i64 a7]] W fun e w5 => e = .returned (.tuple #[]) ∧ Below w.heap.size w w5 ∧ ∃ gg cap m bl k ys, n ≤ m ∧ m < 10 ∧ After w5 w.heap.size A Mb c gg cap m n a0 a1 a2 bl k ys ∧
      ((!a0 && !a1 && !a2) = false → m = n ∧ bl = a8 ∧ k = (if a3 then 1 else 0)) ∧
      ((!a0 && !a1 && !a2) = true → m = n + 1 ∧ bl = wrap64 (a8 + len5) ∧ k = 1 ∧ ys[n * 3]? = some (.slice a5 len5 cap5) ∧ ys[n * 3 + 1]? = some (.bool a6) ∧ ys[n * 3 + 2]? = some (.int .i64 a7)) := by
  have hlen : xs.length = n * 3 := HQ.own.1
  have lQ : w.heap.size < W.heap.size := (HQ.own.lt _ rfl).2
  have lA := World.block_lt_of_cell? W _ h7
  have lM := World.block_lt_of_cell? W _ hS
  have lc : c < W.heap.size := (Array.getElem?_eq_some_iff.1 hch).1
  cases hcl : (!a0 && !a1 && !a2)
  · refine (send_closed w.heap.size Mb A a0 a1 a2 _ _ _ W (by omega) h7 h8 hS hcl).mono ?_
    rintro e w5 ⟨rfl, kp⟩
    have kc : ∀ b o, b < W.heap.size → w5.cell? ⟨b, o, none⟩ = W.cell? ⟨b, o, none⟩ := fun b o hb => World.cell?_of_block (w := W) (a := ⟨b, o, none⟩) (kp.blk b hb)
    refine ⟨rfl, HB.trans kp.bel, w.heap.size, n, n, a8, _, xs, Nat.le_refl _, by omega, ⟨(kc _ _ lA).trans h3, (kc _ _ lA).trans h4, (kc _ _ lA).trans h6, (kc _ _ lA).trans h7, (kc _ _ lA).trans h8, (kc _ _ lM).trans hS, ⟨buf, s, r, (kp.blk c lc).trans hch, rfl⟩, own_of_block HQ.own (kp.blk _ lQ), HQ.z0, HQ.z1, HQ.z2⟩, fun _ => ⟨rfl, rfl, ?_⟩, fun h => by cases h⟩
    subst hbuf
    cases a3 <;> rfl
  · obtain ⟨rfl, rfl, rfl⟩ : a0 = false ∧ a1 = false ∧ a2 = false := by
      revert hcl
      cases a0 <;> cases a1 <;> cases a2 <;> decide
    refine (send_open w.heap.size Mb A c w.heap.size n (.slice (some ⟨w.heap.size, 0, none⟩) n n) xs a5 len5 cap5 a6 a7 a8 buf s r W h7 h8 hS h3 h4 f3 f4 h6 hch (by subst hbuf; cases a3 <;> simp) HQ.own (by simp [Value.ownBlock]; omega) (by simp [Value.ownBlock]; omega) (by simp [Value.ownBlock]; omega) hMA (by omega) (by omega) (by omega) (by omega) (Nat.le_refl _)).mono ?_
    rintro e w5 ⟨rfl, q⟩
    obtain ⟨gg, cap, q3, qo⟩ := q.own
    obtain ⟨s', r', qch⟩ := q.ch
    refine ⟨rfl, HB.trans q.bel, gg, cap, n + 1, _, 1, xs ++ [.slice a5 len5 cap5, .bool a6, .int .i64 a7], by omega, by omega, ⟨q3, q.c4, (q.cO 6 (by decide) (by decide)).trans h6, (q.cO 7 (by decide) (by decide)).trans h7, (q.cO 8 (by decide) (by decide)).trans h8, (q.cM 66).trans hS, ⟨_, s', r', qch, rfl⟩, qo, ?_, ?_, ?_⟩, fun h => (by cases h), fun _ => ⟨rfl, rfl, rfl, ?_, ?_, ?_⟩⟩
    · intro j hj
      rw [List.getElem?_append_left (by omega)]
      exact HQ.z0 j hj
    · intro j hj
      rw [List.getElem?_append_left (by omega)]
      exact HQ.z1 j hj
    · intro j hj
      rw [List.getElem?_append_left (by omega)]
      exact HQ.z2 j hj
    · rw [List.getElem?_append_right (by omega), hlen, Nat.sub_self]
      rfl
    · rw [List.getElem?_append_right (by omega), hlen, show n * 3 + 1 - n * 3 = 1 by omega]
      rfl
    · rw [List.getElem?_append_right (by omega), hlen, show n * 3 + 2 - n * 3 = 2 by omega]
      rfl

theorem rowq_alloc {w : World} {base Qb cap n i : Nat} {xs : List Value} (h : RowQ w base Qb cap n i xs) (o : Obj) : RowQ (w.alloc o) base Qb cap n i xs := ⟨h.own.alloc o, h.z0, h.z1, h.z2⟩

set_option maxRecDepth 100000 in
set_option maxHeartbeats 3200000 in
theorem rest (w W : World) (A c n : Nat) (a0 a1 a2 a3 : Bool) (a4 : Int) (a5 : Option Addr) (len5 cap5 : Nat) (a6 : Bool) (a7 a8 : Int) (xs : List Value) (str : ByteArray) (buf : Array Value) (s r : Nat)
    (hn : n < 8) (h3 : W.cell? ⟨A, 3, none⟩ = some (.slice (some ⟨w.heap.size, 0, none⟩) n n)) (h4 : W.cell? ⟨A, 4, none⟩ = some (.int .i64 a8)) (h6 : W.cell? ⟨A, 6, none⟩ = some (.chan (some c))) (h7 : W.cell? ⟨A, 7, none⟩ = some (.bool a0)) (h8 : W.cell? ⟨A, 8, none⟩ = some (.bool a1))
    (f3 : W.frozen? ⟨A, 3, none⟩ = false) (f4 : W.frozen? ⟨A, 4, none⟩ = false) (hch : W.heap[c]? = some (.chan 1 buf false s r false)) (hbuf : buf = if a3 then #[.agg #[]] else #[]) (HQ : Hid (RowQ W w.heap.size w.heap.size n n n xs)) (hBA : w.heap.size < A) (hBc : w.heap.size < c) (HB : Hid (Below w.heap.size w W))
    (HCV : Hid (∀ wx, Below w.heap.size w wx → (convert 22 9 (.slice a5 len5 cap5)).run Yba.prog wx = .ok (.string str) wx)) {c9 c10 c11 c12 c13 c14 c15 c16 c17 c18 c20 c21 c23 c24 c25 c26 c27 c28 c29 c30 c31 c32 c33 c34 c35 c36 c37 c38 c39 c40 c41 c42 c43 c44 c45 c46 c47 c48 c49 c50 c51 c52 c53 c54 c55 c56 c57 c58 c59 c60 c61 c62 c63 c64 c65 c66 c67 c68 c69 c70 c71 c72 c73 c74 c75 c76 c77 c78 c79 c80 c81 c82 c83 c84 c85 c86 c87 c88 c89 c90 c91 c92 c93 c94 c95 c96 c97 c98 c99 c100 c101 c102 c103 c104 c105 c106 c107 c108 c109 c110 c111 c112 c113 c114 c115 c116 c117 c118 c119 c120 c121 c122 c123 c124 c125 c126 c127 c128 c129 c130 c131 c132 c133 c134 c135 c136 c137 c138 c139 c140 c141 c142 c143 c144 c145 c146 c147 c148 c149 c150 c151 c152 c153 c154 c155 c156 c157 c158 c159 c160 c161 c162 c163 c164 c165 c166 c167 c168 c169 c170 c171 c172 c173 c174 c175 c176 c177 c178 c179 c180 c181 c182 c183 c184 c185 c186 c187 c188 c189 c190 c191 c192 c193 c194 c195 c196 c197 c198 c199 c200 c201 c202 c203 c204 c205 c206 c207 c208 c209 c210 c211 c212 c213 c214 c215 c216 c217 c218 c219 c220 c221 c222 c223 c224 : Value} :
    Code.wp Yba.prog (dropSeq 7 (Yba.f3.body.getD .skip)) (bodyPost Yba.prog Yba.f3 (fun e w' => e = .returned (.bool true) ∧ Below w.heap.size w w')) ⟨#[.bool a0, .bool a1, .bool a2, .bool a3, .int .u8 a4, .slice a5 len5 cap5, .bool a6, .int .i64 a7, .int .i64 a8, c9, c10, c11, c12, c13, c14, c15, c16, c17, c18, .int .i64 n, c20, c21, .pointer (some ⟨A, 0, none⟩), c23, c24, c25, c26, c27, c28, c29, c30, c31, c32, c33, c34, c35, c36, c37, c38, c39, c40, c41, c42, c43, c44, c45, c46, c47, c48, c49, c50, c51, c52, c53, c54, c55, c56, c57, c58, c59, c60, c61, c62, c63, c64, c65, c66, c67, c68, c69, c70, c71, c72, c73, c74, c75, c76, c77, c78, c79, c80, c81, c82, c83, c84, c85, c86, c87, c88, c89, c90, c91, c92, c93, c94, c95, c96, c97, c98, c99, c100, c101, c102, c103, c104, c105, c106, c107, c108, c109, c110, c111, c112, c113, c114, c115, c116, c117, c118, c119, c120, c121, c122, c123, c124, c125, c126, c127, c128, c129, c130, c131, c132, c133, c134, c135, c136, c137, c138, c139, c140, c141, c142, c143, c144, c145, c146, c147, c148, c149, c150, c151, c152, c153, c154, c155, c156, c157, c158, c159, c160, c161, c162, c163, c164, c165, c166, c167, c168, c169, c170, c171, c172, c173, c174, c175, c176, c177, c178, c179, c180, c181, c182, c183, c184, c185, c186, c187, c188, c189, c190, c191, c192, c193, c194, c195, c196, c197, c198, c199, c200, c201, c202, c203, c204, c205, c206, c207, c208, c209, c210, c211, c212, c213, c214, c215, c216, c217, c218, c219, c220, c221, c222, c223, c224], []⟩ W := by
  have e7 : dropSeq 7 (Yba.f3.body.getD .skip) = graft 2 (dropSeq 7 (Yba.f3.body.getD .skip)) (dropSeq 9 (Yba.f3.body.getD .skip)) := (graft_drop 2 (dropSeq 7 (Yba.f3.body.getD .skip))).symm
  rw [e7]
  generalize hR : dropSeq 9 (Yba.f3.body.getD .skip) = R
  have HR := hide hR
  clear hR e7
  conv => arg 2; arg 2; whnf
  simp only [graft]
  obtain ⟨cs, hcs, hrun⟩ := mem79 a2
  have hb1 := (hrun W).1
  have hb2 := (hrun W).2
  clear hrun
  have HCS := hide hcs
  clear hcs
  go_wp2_with fail
  refine oper_value (v := .agg cs) (w' := W) (exec_build rfl rfl hb1) ?_
  go_wp2_with fail
  have lA : A < W.heap.size := World.block_lt_of_cell? W _ h7
  have lc : c < W.heap.size := (Array.getElem?_eq_some_iff.1 hch).1
  have p : ∀ o, (W.alloc (.cells cs 79)).cell? ⟨A, o, none⟩ = W.cell? ⟨A, o, none⟩ := fun o => World.cell?_alloc_past _ _ _ lA
  have pf : ∀ o, (W.alloc (.cells cs 79)).frozen? ⟨A, o, none⟩ = W.frozen? ⟨A, o, none⟩ := fun o => World.frozen?_alloc_past _ _ _ lA
  refine (send_any w (W.alloc (.cells cs 79)) W.heap.size A c n a0 a1 a2 a3 a5 len5 cap5 a6 a7 a8 xs buf s r hn ((p 3).trans h3) ((p 4).trans h4) ((p 6).trans h6) ((p 7).trans h7) ((p 8).trans h8) ((World.cell?_alloc_at _ _ _ _ rfl).trans HCS.out) ((pf 3).trans f3) ((pf 4).trans f4) ((Below.heap_alloc _ _ _ lc).trans hch) hbuf (rowq_alloc HQ.out _) hBA hBc (by omega) (by omega) (HB.out.alloc HB.out.size _)).mono ?_
  rintro e w5 ⟨rfl, hb5, gg, cap, m, bl, k, ys, hm1, hm2, haf, hC, hO⟩
  have HAF := hide haf
  have HB5 := hide hb5
  have HHC := hide hC
  have HHO := hide hO
  clear haf hb5 hC hO p pf h3 h4 h6 h7 h8 f3 f4 hch hbuf
  go_wp2_with fail
  rw [← HR.out]
  exact tail w w5 A W.heap.size c gg cap m n a0 a1 a2 a3 a4 a5 len5 cap5 a6 a7 a8 bl k ys str hn hm1 hm2 HAF HB5 HHC HHO HCV

theorem chan_frozen {w : World} {c b o cap s r : Nat} {buf : Array Value} {cl tm : Bool} (h : b ≠ c) : (w.setChan c cap buf cl s r tm).frozen? ⟨b, o, none⟩ = w.frozen? ⟨b, o, none⟩ := by
  simp only [World.frozen?, chan_other h]

theorem wpn_cut {P : Program} {x y : Code} {Q : Exit → Act → World → Prop} {a : Act} {w : World} (h : ∀ R, R = y → WPn P (Code.seq x R) Q a w) : WPn P (Code.seq x y) Q a w := h y rfl

set_option maxRecDepth 100000 in
set_option maxHeartbeats 1000000 in
theorem head (a0 a1 a2 a3 : Bool) (a4 : Int) (a5 : Option Addr) (len5 cap5 : Nat) (a6 : Bool) (a7 a8 : Int) (w : World) (n : Nat) (hn : n < 8) (hnn : wrap64 (a4.tmod 8) = (n : Int)) (hl : len5 ≤ 1048576) (str : ByteArray) (HCV : Hid (∀ wx, Below w.heap.size w wx → (convert 22 9 (.slice a5 len5 cap5)).run Yba.prog wx = .ok (.string str) wx)) :
    Calls Yba.prog 3 #[.bool a0, .bool a1, .bool a2, .bool a3, .int .u8 a4, .slice a5 len5 cap5, .bool a6, .int .i64 a7, .int .i64 a8] w fun e w' => e = .returned (.bool true) ∧ Below w.heap.size w w' := by
  obtain ⟨i0, hi0, hz0, hz1, hz2⟩ := info_parts Yba.info25
  have hl2 : ¬ (1048576 < (len5 : Int)) := by omega
  have cells25 := Yba.cells25
  obtain ⟨w1, hmk, hown, hgrow⟩ := run_makeSlice_full (P := Yba.prog) w w.heap.size 23 25 i0 _ 3 Yba.underlying23 hi0 hz0 hz1 .i64 .i64 n (by omega) (by rw [hz2]; omega) (by unfold maxLen; omega) (Nat.le_refl _)
  have RQ0 := hide (rowq_made hown)
  have BEL1 := hide ((Below.refl w.heap.size w).grown hgrow (Nat.le_refl _) (fun _ h => by cases h))
  have hsz : w.heap.size < w1.heap.size := (hown.lt _ rfl).2
  clear hi0 hz0 hz1 hz2 hown hgrow
  refine calls_of_wpn Yba.func3 rfl ?_
  simp only [Yba.ntmps3, List.size_toArray, List.length_cons, List.length_nil, Nat.reduceAdd, Nat.reduceSub, Array.replicate_succ, Array.replicate_zero, List.push_toArray, List.append_toArray, List.nil_append, List.cons_append]
  refine wpn_seq_k fun K hK => ?_
  go_wp2
  refine wpn_seq_k fun K hK => ?_
  go_wp2
  refine wpn_seq_k fun K hK => ?_
  go_wp2
  refine wpn_seq_k fun K hK => ?_
  go_wp2
  refine wpn_seq_k fun K hK => ?_
  simp only [hnn]
  go_wp2
  go_loopw [21] (fun i wx => ∃ (j : Nat) (xs : List Value), j ≤ n ∧ i = .int .i64 j ∧ Hid (RowQ wx w.heap.size w.heap.size n n j xs) ∧ Hid (Below w.heap.size w wx)) (fun i _ => n - (intOf i).toNat)
  case atStart => exact ⟨0, _, Nat.zero_le _, rfl, RQ0, BEL1⟩
  case round =>
    obtain ⟨j, xs, hj, rfl, HRQ, HBE⟩ := hrel
    by_cases hlt : j < n
    · have j0 : (j : Int) < (n : Int) := by omega
      have hlen : xs.length = n * 3 := HRQ.out.own.1
      have c0 := HRQ.out.own.cellAt (j * 3) (by omega)
      have c1 := HRQ.out.own.cellAt (j * 3 + 1) (by omega)
      have c2 := HRQ.out.own.cellAt (j * 3 + 2) (by omega)
      rw [List.getElem?_eq_getElem (by omega)] at c0 c1 c2
      have f0 := HRQ.out.own.frozenAt
      go_wp2
      refine ⟨⟨j + 1, _, by omega, by go_num, hide (rowq_stored HRQ.out hlt), hide (((HBE.out.setCell (p := ⟨w.heap.size, j * 3, none⟩) (Nat.le_refl _) _).setCell (p := ⟨w.heap.size, j * 3 + 1, none⟩) (Nat.le_refl _) _).setCell (p := ⟨w.heap.size, j * 3 + 2, none⟩) (Nat.le_refl _) _)⟩, ?_⟩
      simp [intOf]
      omega
    · have hjn : j = n := by omega
      subst hjn
      clear RQ0 BEL1 hmk hsz hlt hj
      go_wp2
      refine wpn_seq_k fun K hK => ?_
      have hmc := mkchan wr
      go_wp2
      have hj8 := hn
      have HBE2 := hide ((HBE.out.alloc HBE.out.size (.chan 1 #[] false 0 0 false)).alloc (by simp; have := HBE.out.size; omega) (.cells #[.int .i64 1, .nilIface, .nilIface, .slice (some ⟨w.heap.size, 0, none⟩) j j, .int .i64 a8, .bool false, .chan (some wr.heap.size), .bool a0, .bool a1, .bool false, .int .u64 0, .int .i64 0, .pointer none, .nilIface, .bool false, .bool false, .bool false, .pointer none, .int .u64 0, .int .u64 0, .int .u64 0, .int .u64 0] 38))
      have HRQ2 := hide (rowq_alloc (rowq_alloc HRQ.out (.chan 1 #[] false 0 0 false)) (.cells #[.int .i64 1, .nilIface, .nilIface, .slice (some ⟨w.heap.size, 0, none⟩) j j, .int .i64 a8, .bool false, .chan (some wr.heap.size), .bool a0, .bool a1, .bool false, .int .u64 0, .int .i64 0, .pointer none, .nilIface, .bool false, .bool false, .bool false, .pointer none, .int .u64 0, .int .u64 0, .int .u64 0, .int .u64 0] 38))
      have lQ : w.heap.size < wr.heap.size := (HRQ.out.own.lt _ rfl).2
      generalize hLK : (Obj.cells #[.int .i64 1, .nilIface, .nilIface, .slice (some ⟨w.heap.size, 0, none⟩) j j, .int .i64 a8, .bool false, .chan (some wr.heap.size), .bool a0, .bool a1, .bool false, .int .u64 0, .int .i64 0, .pointer none, .nilIface, .bool false, .bool false, .bool false, .pointer none, .int .u64 0, .int .u64 0, .int .u64 0, .int .u64 0] 38 : Obj) = LK at HBE2 HRQ2 ⊢
      generalize hW0 : (wr.alloc (.chan 1 #[] false 0 0 false)).alloc LK = W0 at HBE2 HRQ2 ⊢
      have hc : ∀ o u, (#[.int .i64 1, .nilIface, .nilIface, .slice (some ⟨w.heap.size, 0, none⟩) j j, .int .i64 a8, .bool false, .chan (some wr.heap.size), .bool a0, .bool a1, .bool false, .int .u64 0, .int .i64 0, .pointer none, .nilIface, .bool false, .bool false, .bool false, .pointer none, .int .u64 0, .int .u64 0, .int .u64 0, .int .u64 0] : Array Value)[o]? = some u → W0.cell? ⟨wr.heap.size + 1, o, none⟩ = some u := fun o u hu => by
        rw [← hW0, ← hLK]
        exact (World.cell?_alloc_at _ _ _ _ (by simp)).trans hu
      have hf : ∀ o, W0.frozen? ⟨wr.heap.size + 1, o, none⟩ = false := fun o => by
        rw [← hW0, ← hLK]
        exact World.frozen?_alloc_at _ _ _ _ (by simp)
      have hch : W0.heap[wr.heap.size]? = some (.chan 1 #[] false 0 0 false) := by
        rw [← hW0, Below.heap_alloc _ _ _ (by simp)]
        exact heap_alloc_new wr _
      have h3 := hc 3 _ rfl
      have h4 := hc 4 _ rfl
      have h6 := hc 6 _ rfl
      have h7 := hc 7 _ rfl
      have h8 := hc 8 _ rfl
      have f3 := hf 3
      have f4 := hf 4
      have HCH := hide hch
      have lc0 : wr.heap.size < W0.heap.size := (Array.getElem?_eq_some_iff.1 hch).1
      clear hc hf hch hmc hW0 hLK
      refine wpn_cut ?_
      intro R hR
      have HR := hide hR
      clear hR
      cases a3
      · refine wpn_seq_k fun K hK => ?_
        go_wp2_with fail
        refine wpn_of_wp ?_
        rw [HR.out]
        exact rest w W0 (wr.heap.size + 1) wr.heap.size j a0 a1 a2 false a4 a5 len5 cap5 a6 a7 a8 xs str #[] 0 0 hj8 h3 h4 h6 h7 h8 f3 f4 HCH.out rfl HRQ2 (by omega) lQ HBE2 HCV
      · refine wpn_seq (wpn_seq_k fun K hK => ?_)
        go_wp2_with fail
        refine wpn_cond_true rfl ?_
        refine wpn_send_room (pre := [0, 1, 2, 3, 4]) (post := []) (i := 5) (w1 := W0) (c := wr.heap.size) (cap := 1) (buf := #[]) (s := 0) (r := 0) (tm := false) (v := .agg #[]) (z := .tuple #[]) rfl
          ⟨_, .pointer (some ⟨wr.heap.size + 1, 0, none⟩), W0, rfl, rfl, by simp [go_sem, execOp, Act.eval], _, .pointer (some ⟨wr.heap.size + 1, 0, none⟩), W0, rfl, rfl, by simp [go_sem, execOp, Act.eval, Act.put], _, .pointer (some ⟨wr.heap.size + 1, 6, none⟩), W0, rfl, rfl, by simp [go_sem, execOp, Act.eval, Act.put], _, .chan (some wr.heap.size), W0, rfl, rfl, by simp [go_sem, execOp, Act.eval, Act.put, h6], _, .agg #[], W0, rfl, rfl, by simp [go_sem, execOp, Act.eval, Act.put], rfl, rfl⟩
          rfl rfl (by simp [go_sem, execOp, scase, Act.eval, Act.put]) HCH.out (by simp) ⟨rfl, rfl⟩ ?_
        refine wpn_of_wp ?_
        rw [HR.out]
        simp only [Act.put, List.setIfInBounds_toArray]
        have ne : wr.heap.size + 1 ≠ wr.heap.size := by omega
        exact rest w (W0.setChan wr.heap.size 1 #[.agg #[]] false 1 0 false) (wr.heap.size + 1) wr.heap.size j a0 a1 a2 true a4 a5 len5 cap5 a6 a7 a8 xs str #[.agg #[]] 1 0 hj8 ((chan_cell ne).trans h3) ((chan_cell ne).trans h4) ((chan_cell ne).trans h6) ((chan_cell ne).trans h7) ((chan_cell ne).trans h8) ((chan_frozen ne).trans f3) ((chan_frozen ne).trans f4) (heap_setChan _ _ _ _ _ _ _ _ lc0) rfl
          (hide ⟨own_of_block HRQ2.out.own (chan_other (by omega)), HRQ2.out.z0, HRQ2.out.z1, HRQ2.out.z2⟩) (by omega) lQ (hide (below_setChan HBE2.out (by omega) _ _ _ _ _ _)) HCV
end Go.Proofs.Ybulkanja.Chan

