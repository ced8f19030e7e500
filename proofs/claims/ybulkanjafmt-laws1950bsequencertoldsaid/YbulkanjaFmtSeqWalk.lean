/-
  THE WALK of LawS1950BSequencer (3).
-/
import Derived.Test.YbulkanjaFmtSeqMain
import Derived.Test.YbulkanjaFmtStart
namespace Go.Proofs.YbulkanjaFmt.Tot
open Go.RowKit Go.Maps Go.Proofs.YbulkanjaFmt.MapsF

/-- Where the loop over the steps begins. -/
theorem seq_start {self : Int} {T ob : Nat} {o0 o1 o2 pend : Bool} {w0 w w1 : World} {P : Nat} (h : NewAt self self T o0 o1 o2 pend w P w1) (hT : w.heap[T]? = some (.cells #[.slice none 0 0, .slice none 0 0] 28)) (hO : w.heap[ob]? = some (.cells #[.bool o0, .bool o1, .bool o2] 22)) (hk : Keeps (fun _ => False) w0 w) (hT0 : w0.heap.size ≤ T) :
    ∃ C : Cfg, ∃ Q, Side C w0.heap.size w1.heap.size (w1.heap.size + 1) Q ∧ Q ob (.cells #[.bool (C.out 0), .bool (C.out 1), .bool (C.out 2)] 22) ∧ C.self = C.seq ∧ C.pend = pend ∧ C.a 0 = T ∧ C.a 1 = P ∧ Good 0 st0 [] dlv0 ∧
      J w0 ((w1.alloc (.map #[] 0)).alloc (.cells #[.int .u64 0, .int .u64 0, .int .u64 0] 33)) C (dlvd (placed st0 [] (.slice none 0 0)) [] dlv0 (.slice none 0 0)) w1.heap.size (w1.heap.size + 1) Q (md [] dlv0 0 (.slice none 0 0) (.slice none 0 0)) := by
  have hB : Below w.heap.size w w1 := by
    obtain ⟨_, _, _, _, hB, _⟩ := h
    exact hB
  have lO : ob < w.heap.size := (Array.getElem?_eq_some_iff.1 hO).1
  have lT : T < w.heap.size := (Array.getElem?_eq_some_iff.1 hT).1
  obtain ⟨a, mem, clo, O, S, e1, hlo, hlt, hkw⟩ := new_ps h hT (w2 := (w1.alloc (.map #[] 0)).alloc (.cells #[.int .u64 0, .int .u64 0, .int .u64 0] 33)) (((Keeps.refl _ w1).alloc _).alloc _) (w1.heap.size + 2) (by omega) (by simp)
  have tO : ∀ i, i < 10 → ob ≠ (cfg T a (w1.heap.size + 2) self self o0 o1 o2 pend mem clo).a i := by
    intro i hi e
    by_cases h0 : i = 0
    · subst h0
      have : ob = T := e
      rw [this, hT] at hO
      cases hO
    · have : ob = a i := e.trans (show (if i = 0 then T else a i) = a i by rw [if_neg h0])
      have := hlo i (by omega) hi
      omega
  refine ⟨cfg T a (w1.heap.size + 2) self self o0 o1 o2 pend mem clo, fun k o => k = ob ∧ o = .cells #[.bool o0, .bool o1, .bool o2] 22, ⟨O, ?_, ?_, ?_, ?_, ?_, ?_, ?_, ?_, ?_, ?_⟩, ⟨rfl, rfl⟩, rfl, rfl, rfl, e1, ⟨rfl, rfl, ?_, ?_, ?_, rfl⟩, ⟨?_, ?_, ?_, ?_, ?_, ?_, ?_, ?_⟩⟩
  · have := hk.size; have := hB.size; show _ ≤ w1.heap.size + 2; omega
  · intro i hi
    by_cases h0 : i = 0
    · subst h0; exact hT0
    · have : (cfg T a (w1.heap.size + 2) self self o0 o1 o2 pend mem clo).a i = a i := by show (if i = 0 then T else a i) = a i; rw [if_neg h0]
      rw [this]
      have := hlo i (by omega) hi
      have := hk.size
      omega
  · have := hk.size; have := hB.size; omega
  · have := hk.size; have := hB.size; omega
  · show _ < w1.heap.size + 2; omega
  · show _ < w1.heap.size + 2; omega
  · omega
  · intro i hi; have := hlt i hi; omega
  · intro i hi; have := hlt i hi; omega
  · rintro k o ⟨rfl, rfl⟩
    have := hB.size
    refine ⟨?_, by omega, by omega, tO⟩
    show k < w1.heap.size + 2
    omega
  · intro s hs; cases hs
  · intro t; exact Nat.zero_le _
  · intro t m _; rfl
  · rw [st0_eq]; exact S
  · exact mapM_made (by rw [Below.heap_alloc _ _ _ (by simp)]; exact heap_alloc_new w1 _)
  · have := heap_alloc_new (w1.alloc (.map #[] 0)) (.cells #[.int .u64 0, .int .u64 0, .int .u64 0] 33)
    rw [World.size_alloc] at this
    exact this
  · exact World.ownsRow_nil _ _ _ _
  · exact World.ownsRow_nil _ _ _ _
  · intro k hk'; cases hk'
  · rintro k o ⟨rfl, rfl⟩
    have := hB.size
    rw [Below.heap_alloc _ _ _ (by simp; omega), Below.heap_alloc _ _ _ (by omega), hB.block k lO, hO]
  · exact (hk.mono (fun _ _ h => h.elim)).then hkw (fun k hk0 h => by have := hk.size; omega)

/-- The same, at slots that are equal to what it names. -/
theorem seq_loop_at (w0 w : World) (C : Cfg) (x : St) (hb pb ob : Nat) (Q : Nat → Obj → Prop) (D : Side C w0.heap.size hb pb Q) (hQ : Q ob (.cells #[.bool (C.out 0), .bool (C.out 1), .bool (C.out 2)] 22)) (p : Dlv) (bv dw vB vD : Value) (a : Option Addr) (len cap : Nat) (xs ns : Nat → Int) (hl : len ≤ 1024)
    (hst : Steps w0 a len xs ns) (hself : C.self = C.seq) (G : Good 0 x [] p) (hJ : J w0 w C (dlvd (placed x [] bv) [] p dw) hb pb Q (md [] p 0 vB vD)) (pn : Bool) (T P : Nat) (e1 : C.pend = pn) (e2 : C.a 0 = T) (e3 : C.a 1 = P) {c0 c1 c4 c6 c7 c8 c9 c16 c17 c18 c19 c20 c21 c22 c23 c24 c25 c26 c27 c28 c29 c30 c31 c32 c33 c34 c35 c36 c37 c38 c39 c40 c41 c42 c43 c44 c45 c46 c47 c48 c49 c50 c51 c52 c53 c54 c55 c56 c57 c58 c59 c60 c61 c62 c63 c64 c65 c66 c67 c68 c69 c70 c71 c72 c73 c74 c75 c76 c77 c78 c79 c80 c81 c82 c83 c84 c85 c86 c87 c88 c89 c90 c91 c92 c93 c94 c95 c96 c97 c98 c99 c100 c101 c102 c103 c104 c105 c106 c107 c108 c109 c110 c111 c112 c113 c114 c115 c116 c117 c118 c119 c120 c121 c122 c123 c124 c125 c126 c127 c128 c129 c130 c131 c132 c133 c134 c135 c136 c137 c138 c139 c140 c141 c142 c143 c144 c145 c146 c147 c148 c149 c150 c151 c152 c153 c154 c155 c156 c157 c158 c159 c160 c161 c162 c163 c164 c165 c166 c167 c168 c169 c170 c171 c172 c173 c174 c175 c176 c177 c178 c179 c180 c181 c182 c183 c184 : Value} :
    Code.wp Ybaf.prog (dropSeq 9 (Ybaf.f3.body.getD .skip)) (bodyPost Ybaf.prog Ybaf.f3 (fun e w' => e = .returned (.bool true) ∧ Below w0.heap.size w0 w')) ⟨#[c0, c1, .bool pn, .slice a len cap, c4, .pointer (some ⟨ob, 0, none⟩), c6, c7, c8, c9, .pointer (some ⟨T, 0, none⟩), .pointer (some ⟨P, 0, none⟩), .map (some hb), .pointer (some ⟨pb, 0, none⟩), vB, vD, c16, c17, c18, c19, c20, c21, c22, c23, c24, c25, c26, c27, c28, c29, c30, c31, c32, c33, c34, c35, c36, c37, c38, c39, c40, c41, c42, c43, c44, c45, c46, c47, c48, c49, c50, c51, c52, c53, c54, c55, c56, c57, c58, c59, c60, c61, c62, c63, c64, c65, c66, c67, c68, c69, c70, c71, c72, c73, c74, c75, c76, c77, c78, c79, c80, c81, c82, c83, c84, c85, c86, c87, c88, c89, c90, c91, c92, c93, c94, c95, c96, c97, c98, c99, c100, c101, c102, c103, c104, c105, c106, c107, c108, c109, c110, c111, c112, c113, c114, c115, c116, c117, c118, c119, c120, c121, c122, c123, c124, c125, c126, c127, c128, c129, c130, c131, c132, c133, c134, c135, c136, c137, c138, c139, c140, c141, c142, c143, c144, c145, c146, c147, c148, c149, c150, c151, c152, c153, c154, c155, c156, c157, c158, c159, c160, c161, c162, c163, c164, c165, c166, c167, c168, c169, c170, c171, c172, c173, c174, c175, c176, c177, c178, c179, c180, c181, c182, c183, c184], []⟩ w := by
  subst e1 e2 e3
  exact seq_loop w0 w C x hb pb ob Q D hQ p bv dw vB vD a len cap xs ns hl hst hself G hJ

set_option maxRecDepth 100000 in
set_option maxHeartbeats 3200000 in
theorem seq_walk (self : Int) (o0 o1 o2 pend : Bool) (a : Option Addr) (len cap : Nat) (xs ns : Nat → Int) (w : World) (h0 : 0 ≤ self) (h1 : self ≤ 255) (hst : Steps w a len xs ns) :
    Calls Ybaf.prog 3 #[.int .u8 self, .agg #[.bool o0, .bool o1, .bool o2], .bool pend, .slice a len cap] w fun e w' => e = .returned (.bool true) ∧ Below w.heap.size w w' := by
  have HST := hide hst
  clear hst
  by_cases hl : len ≤ 1024
  · go_enter Ybaf.func3, Ybaf.ntmps3
    rw [← graft_drop 9 (Code.seq _ _)]
    generalize hR : dropSeq 9 (Code.seq _ _) = R
    have HR := hide hR
    clear hR
    simp only [graft]
    have i1 : (len : Int) ≤ 1024 := by omega
    go_wp2_with (go_at_call 5; refine (new_any _ _ _ _ _ _ _ _).mono ?_; rintro e w1 ⟨P, rfl, hnew⟩; have HN := hide hnew; clear hnew; have hmm := Ybaf.mk31)
    obtain ⟨C, Q, D, hQ, hself, hpend, ha0, ha1, G, hJ⟩ := seq_start (w0 := w) (ob := w.heap.size) HN.out (T := w.heap.size + 1) (by have := heap_alloc_new (w.alloc (.cells #[.bool o0, .bool o1, .bool o2] 22)) (.cells #[.slice none 0 0, .slice none 0 0] 28); rw [World.size_alloc] at this; exact this) (by rw [Below.heap_alloc _ _ _ (by simp)]; exact heap_alloc_new w _) (((Keeps.refl _ w).alloc _).alloc _) (by omega)
    rw [← HR.out]
    exact seq_loop_at w _ C st0 w1.heap.size (w1.heap.size + 1) w.heap.size Q D hQ dlv0 (.slice none 0 0) (.slice none 0 0) (.slice none 0 0) (.slice none 0 0) a len cap xs ns hl HST.out hself G hJ pend _ _ hpend ha0 ha1
  · have i1 : ¬ ((len : Int) ≤ 1024) := by omega
    have i2 : (1024 : Int) < (len : Int) := by omega
    go_enter Ybaf.func3, Ybaf.ntmps3
    go_wp2
    go_ret
    exact ⟨rfl, (Below.refl _ w).alloc (Nat.le_refl _) _⟩
end Go.Proofs.YbulkanjaFmt.Tot
