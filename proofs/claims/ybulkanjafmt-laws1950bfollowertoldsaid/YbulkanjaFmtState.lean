/-
  THE STATE of a member of ordering's total, as the walks read it: block by block.
-/
import Derived.Test.YbulkanjaFmtDeliv
namespace Go.Proofs.YbulkanjaFmt.Tot
open Go.RowKit Go.Maps Go.Proofs.YbulkanjaFmt.MapsF

/-- A map keyed by uint64, as a function of the number. -/
def MapN (w : World) (b n : Nat) (f : Nat → Option Value) : Prop := ∃ sz M, MapIs Ybaf.prog w 32 b n sz M ∧ ∀ k : Nat, M (.int .u64 (k : Int)) = f k

theorem law32 : Keyed Ybaf.prog 32 := int_keyed Ybaf.underlying32
theorem key_nat (k : Nat) (h : k < 18446744073709551616) : keyOf Ybaf.prog 32 (.int .u64 (k : Int)) = some (.int .u64 (k : Int)) :=
  keyOf_int_mk Ybaf.underlying32 (by simp [Lit.wf, IntKind.min, IntKind.max, IntKind.bits, IntKind.signed]; omega)

theorem MapN.lt {w : World} {b n : Nat} {f : Nat → Option Value} (h : MapN w b n f) : b < w.heap.size := by
  obtain ⟨_, _, h, _⟩ := h
  exact h.lt
theorem MapN.of_block {w w' : World} {b n : Nat} {f : Nat → Option Value} (h : MapN w b n f) (hb : w'.heap[b]? = w.heap[b]?) : MapN w' b n f := by
  obtain ⟨sz, M, h, r⟩ := h
  exact ⟨sz, M, h.of_block hb, r⟩
theorem MapN.mono {w : World} {b n n' : Nat} {f : Nat → Option Value} (h : MapN w b n f) (hn : n ≤ n') : MapN w b n' f := by
  obtain ⟨sz, M, h, r⟩ := h
  exact ⟨sz, M, h.mono hn, r⟩
theorem MapN.look {w : World} {b n : Nat} {f : Nat → Option Value} (h : MapN w b n f) {t e : TypeId} (ht : Ybaf.prog.underlying t = some (.map 32 e)) {z : Value} (hz : (zeroValue e).run Ybaf.prog w = .ok z w) (k : Nat) (hk : k < 18446744073709551616) :
    (Instr.lookup t (.map (some b)) (.int .u64 (k : Int)) true).run Ybaf.prog w = .ok (.tuple #[(f k).getD z, .bool (f k).isSome]) w := by
  obtain ⟨sz, M, h, r⟩ := h
  have := h.look law32 ht hz (key_nat k hk)
  rw [r k] at this
  exact this

def updF {α : Type} (f : Nat → α) (k : Nat) (v : α) : Nat → α := fun j => if j = k then v else f j

theorem upd_nat {M : Lit → Option Value} {f : Nat → Option Value} (r : ∀ k : Nat, M (.int .u64 (k : Int)) = f k) (k : Nat) (v : Option Value) (hk : k < 18446744073709551616) (j : Nat) : upd M (.int .u64 (k : Int)) v (.int .u64 (j : Int)) = updF f k v j := by
  unfold updF
  by_cases h : j = k
  · subst h
    rw [if_pos rfl, upd_same (law32.key (key_nat j hk))]
  · rw [if_neg h, upd_other (fun e => h (by injection e with _ e; omega)), r j]

theorem MapN.store {w : World} {b n : Nat} {f : Nat → Option Value} (h : MapN w b n f) {t e : TypeId} (ht : Ybaf.prog.underlying t = some (.map 32 e)) (hn : n < maxLen) (k : Nat) (hk : k < 18446744073709551616) (val : Value) :
    ∃ w', (Instr.mapUpdate t (.map (some b)) (.int .u64 (k : Int)) val).run Ybaf.prog w = .ok () w' ∧ MapN w' b (n + 1) (updF f k (some val)) ∧ w.mapTurned w' b := by
  obtain ⟨sz, M, h, r⟩ := h
  obtain ⟨w', h1, h2, h3⟩ := h.store law32 ht hn (val := val) (key_nat k hk)
  exact ⟨w', h1, ⟨_, _, h2, upd_nat r k _ hk⟩, h3⟩
theorem MapN.drop {w : World} {b n : Nat} {f : Nat → Option Value} (h : MapN w b n f) {t e : TypeId} (ht : Ybaf.prog.underlying t = some (.map 32 e)) (k : Nat) (hk : k < 18446744073709551616) (ty : TypeId) :
    ∃ w', (Builtin.delete_ #[t, 32] ty #[.map (some b), .int .u64 (k : Int)]).run Ybaf.prog w = .ok (.tuple #[]) w' ∧ MapN w' b n (updF f k none) ∧ w.mapTurned w' b := by
  obtain ⟨sz, M, h, r⟩ := h
  obtain ⟨w', h1, h2, h3⟩ := h.drop law32 ht (key_nat k hk) ty
  exact ⟨w', h1, ⟨_, _, h2, upd_nat r k _ hk⟩, h3⟩

/-- Where the member lies, and what never turns. a 0: the transport; 1: the member; 2: held; 3: placed; 4: done; 5: out; 6: places; 7, 8, 9: the three maps of held. -/
structure Cfg where
  a : Nat → Nat
  base : Nat
  self : Int
  seq : Int
  out : Nat → Bool
  pend : Bool
  mem : Value
  clo : Value

structure Cfg.Ok (C : Cfg) : Prop where
  ne : ∀ i j, i < 10 → j < 10 → i ≠ j → C.a i ≠ C.a j
  lt : ∀ i, i < 10 → C.a i < C.base

/-- What turns. -/
structure St where
  bv : Value
  dw : Value
  pl : Nat → Nat
  dn : Nat → Nat
  dv : Nat
  gv : Nat
  plm : Nat → Option Value
  hv : Nat → Nat → Option (Nat × Nat)
  bx : List Value
  dx : List Value
  nb : Nat
  nd : Nat
  nM : Nat
  nH : Nat

/-- The value of a held body. -/
def bodyV (p : Nat × Nat) : Value := .slice (some ⟨p.1, 0, none⟩) 2 2

structure PS (w : World) (C : Cfg) (x : St) : Prop where
  hT : w.heap[C.a 0]? = some (.cells #[x.bv, x.dw] 28)
  hP : w.heap[C.a 1]? = some (.cells #[.int .i64 C.self, C.mem, .iface 24 (.pointer (some ⟨C.a 0, 0, none⟩)), .int .u64 0, .int .i64 C.seq, .slice (some ⟨C.a 5, 0, none⟩) 3 3, .slice (some ⟨C.a 2, 0, none⟩) 3 3, .map (some (C.a 6)), .int .u64 (x.dv : Int), .int .u64 0, .slice (some ⟨C.a 4, 0, none⟩) 3 3, .int .u64 (x.gv : Int), .slice (some ⟨C.a 3, 0, none⟩) 3 3, .bool C.pend, C.clo] 60)
  hH : w.heap[C.a 2]? = some (.cells #[.map (some (C.a 7)), .map (some (C.a 8)), .map (some (C.a 9))] 63)
  hL : w.heap[C.a 3]? = some (.cells #[.int .u64 (x.pl 0 : Int), .int .u64 (x.pl 1 : Int), .int .u64 (x.pl 2 : Int)] 32)
  hD : w.heap[C.a 4]? = some (.cells #[.int .u64 (x.dn 0 : Int), .int .u64 (x.dn 1 : Int), .int .u64 (x.dn 2 : Int)] 32)
  hO : w.heap[C.a 5]? = some (.cells #[.bool (C.out 0), .bool (C.out 1), .bool (C.out 2)] 4)
  hM : MapN w (C.a 6) x.nM x.plm
  hh : ∀ s, s < 3 → MapN w (C.a (7 + s)) x.nH (fun m => (x.hv s m).map bodyV)
  ob : w.ownsRow C.base 51 17 x.bv x.nb x.bx
  od : w.ownsRow C.base 46 2 x.dw x.nd x.dx
  bod : ∀ s m bb i, x.hv s m = some (bb, i) → w.heap[bb]? = some (.cells #[.int .u8 ((i % 256 : Nat) : Int), .int .u8 ((i / 256 : Nat) : Int)] 5) ∧ C.base ≤ bb ∧ i < 65536
  hbase : C.base ≤ w.heap.size

section
variable {w w' : World} {C : Cfg} {x : St}

/-- Nothing of it turns. -/
theorem PS.same (S : PS w C x) (O : C.Ok) {X : Nat → Prop} (hk : Keeps X w w') (hX : ∀ i, i < 10 → ¬ X (C.a i)) (hb : ∀ k, x.bv.ownBlock = some k → ¬ X k) (hd : ∀ k, x.dw.ownBlock = some k → ¬ X k) (hbo : ∀ k, C.base ≤ k → ∀ cs, w.heap[k]? = some (.cells cs 5) → ¬ X k) : PS w' C x := by
  have lt : ∀ i, i < 10 → C.a i < w.heap.size := fun i hi => Nat.lt_of_lt_of_le (O.lt i hi) S.hbase
  have k : ∀ i, i < 10 → w'.heap[C.a i]? = w.heap[C.a i]? := fun i hi => hk.block _ (lt i hi) (hX i hi)
  refine ⟨(k 0 (by decide)).trans S.hT, (k 1 (by decide)).trans S.hP, (k 2 (by decide)).trans S.hH, (k 3 (by decide)).trans S.hL, (k 4 (by decide)).trans S.hD, (k 5 (by decide)).trans S.hO, S.hM.of_block (k 6 (by decide)), fun s hs => (S.hh s hs).of_block (k (7 + s) (by omega)),
    own_of_block S.ob (fun b hb' => hk.block b (S.ob.lt b hb').2 (hb b hb')), own_of_block S.od (fun b hb' => hk.block b (S.od.lt b hb').2 (hd b hb')), fun s m bb i h => ?_, Nat.le_trans S.hbase hk.size⟩
  obtain ⟨h1, h2, h3⟩ := S.bod s m bb i h
  exact ⟨(hk.block bb (Array.getElem?_eq_some_iff.1 h1).1 (hbo bb h2 _ h1)).trans h1, h2, h3⟩

theorem PS.keep (S : PS w C x) (O : C.Ok) (hk : Keeps (fun _ => False) w w') : PS w' C x := S.same O hk (fun _ _ h => h) (fun _ _ h => h) (fun _ _ h => h) (fun _ _ _ _ h => h)
theorem PS.alloc (S : PS w C x) (O : C.Ok) (o : Obj) : PS (w.alloc o) C x := S.keep O ((Keeps.refl _ w).alloc o)
theorem PS.drewN (S : PS w C x) (O : C.Ok) (n : Nat) : PS (w.drewN n) C x := S.keep O ((Keeps.refl _ w).drewN n)
theorem PS.drew (S : PS w C x) (O : C.Ok) : PS w.drew C x := S.keep O (Keeps.refl _ w).drew

theorem row_far {k : Nat} (h : w.ownsRow C.base 51 17 x.bv x.nb x.bx) (hk : x.bv.ownBlock = some k) : C.base ≤ k := (h.lt k hk).1

/-- One of the ten blocks alone turns. -/
theorem PS.one (S : PS w C x) (O : C.Ok) (i : Nat) (hi : i < 10) (hk : Keeps (fun k => k = C.a i) w w') :
    (∀ j, j < 10 → j ≠ i → w'.heap[C.a j]? = w.heap[C.a j]?) ∧ w'.ownsRow C.base 51 17 x.bv x.nb x.bx ∧ w'.ownsRow C.base 46 2 x.dw x.nd x.dx ∧
    (∀ s m bb i, x.hv s m = some (bb, i) → w'.heap[bb]? = some (.cells #[.int .u8 ((i % 256 : Nat) : Int), .int .u8 ((i / 256 : Nat) : Int)] 5) ∧ C.base ≤ bb ∧ i < 65536) ∧ C.base ≤ w'.heap.size := by
  have lt : ∀ i, i < 10 → C.a i < w.heap.size := fun i hi => Nat.lt_of_lt_of_le (O.lt i hi) S.hbase
  have li := O.lt i hi
  refine ⟨fun j hj hji => hk.block _ (lt j hj) (O.ne j i hj hi hji), own_of_block S.ob (fun b hb => hk.block b (S.ob.lt b hb).2 (by have := (S.ob.lt b hb).1; omega)), own_of_block S.od (fun b hb => hk.block b (S.od.lt b hb).2 (by have := (S.od.lt b hb).1; omega)), fun s m bb n h => ?_, Nat.le_trans S.hbase hk.size⟩
  obtain ⟨h1, h2, h3⟩ := S.bod s m bb n h
  exact ⟨(hk.block bb (Array.getElem?_eq_some_iff.1 h1).1 (by omega)).trans h1, h2, h3⟩

theorem keeps_cell (w : World) (b o : Nat) (v : Value) : Keeps (fun k => k = b) w (w.setCell ⟨b, o, none⟩ v) := Keeps.setCell (S := fun k => k = b) (Keeps.refl _ w) (p := ⟨b, o, none⟩) rfl v
theorem keeps_turned {b : Nat} (h : w.mapTurned w' b) : Keeps (fun k => k = b) w w' := Keeps.turned (S := fun k => k = b) (Keeps.refl _ w) h rfl

theorem set3 (f : Nat → Nat) (s v : Nat) (hs : s < 3) : (#[.int .u64 (f 0 : Int), .int .u64 (f 1 : Int), .int .u64 (f 2 : Int)] : Array Value).setIfInBounds s (.int .u64 (v : Int)) = #[.int .u64 ((updF f s v 0 : Nat) : Int), .int .u64 ((updF f s v 1 : Nat) : Int), .int .u64 ((updF f s v 2 : Nat) : Int)] := by
  match s, hs with
  | 0, _ => rfl
  | 1, _ => rfl
  | 2, _ => rfl

/-- 'p.placed[s] = v' -/
theorem PS.setL (S : PS w C x) (O : C.Ok) (s v : Nat) (hs : s < 3) : PS (w.setCell ⟨C.a 3, s, none⟩ (.int .u64 (v : Int))) C { x with pl := updF x.pl s v } := by
  obtain ⟨k, r1, r2, r3, r4⟩ := S.one O 3 (by decide) (keeps_cell w (C.a 3) s (.int .u64 (v : Int)))
  exact ⟨(k 0 (by decide) (by decide)).trans S.hT, (k 1 (by decide) (by decide)).trans S.hP, (k 2 (by decide) (by decide)).trans S.hH, (heap_setCell_same w _ s _ _ _ S.hL).trans (by rw [set3 _ _ _ hs]), (k 4 (by decide) (by decide)).trans S.hD, (k 5 (by decide) (by decide)).trans S.hO, S.hM.of_block (k 6 (by decide) (by decide)), fun t ht => (S.hh t ht).of_block (k (7 + t) (by omega) (by omega)), r1, r2, r3, r4⟩

/-- 'p.done[s] = v' -/
theorem PS.setD (S : PS w C x) (O : C.Ok) (s v : Nat) (hs : s < 3) : PS (w.setCell ⟨C.a 4, s, none⟩ (.int .u64 (v : Int))) C { x with dn := updF x.dn s v } := by
  obtain ⟨k, r1, r2, r3, r4⟩ := S.one O 4 (by decide) (keeps_cell w (C.a 4) s (.int .u64 (v : Int)))
  exact ⟨(k 0 (by decide) (by decide)).trans S.hT, (k 1 (by decide) (by decide)).trans S.hP, (k 2 (by decide) (by decide)).trans S.hH, (k 3 (by decide) (by decide)).trans S.hL, (heap_setCell_same w _ s _ _ _ S.hD).trans (by rw [set3 _ _ _ hs]), (k 5 (by decide) (by decide)).trans S.hO, S.hM.of_block (k 6 (by decide) (by decide)), fun t ht => (S.hh t ht).of_block (k (7 + t) (by omega) (by omega)), r1, r2, r3, r4⟩

/-- 'p.given = v' -/
theorem PS.setG (S : PS w C x) (O : C.Ok) (v : Nat) : PS (w.setCell ⟨C.a 1, 11, none⟩ (.int .u64 (v : Int))) C { x with gv := v } := by
  obtain ⟨k, r1, r2, r3, r4⟩ := S.one O 1 (by decide) (keeps_cell w (C.a 1) 11 (.int .u64 (v : Int)))
  exact ⟨(k 0 (by decide) (by decide)).trans S.hT, heap_setCell_same w _ 11 _ _ _ S.hP, (k 2 (by decide) (by decide)).trans S.hH, (k 3 (by decide) (by decide)).trans S.hL, (k 4 (by decide) (by decide)).trans S.hD, (k 5 (by decide) (by decide)).trans S.hO, S.hM.of_block (k 6 (by decide) (by decide)), fun t ht => (S.hh t ht).of_block (k (7 + t) (by omega) (by omega)), r1, r2, r3, r4⟩

/-- 'p.delivered = v' -/
theorem PS.setV (S : PS w C x) (O : C.Ok) (v : Nat) : PS (w.setCell ⟨C.a 1, 8, none⟩ (.int .u64 (v : Int))) C { x with dv := v } := by
  obtain ⟨k, r1, r2, r3, r4⟩ := S.one O 1 (by decide) (keeps_cell w (C.a 1) 8 (.int .u64 (v : Int)))
  exact ⟨(k 0 (by decide) (by decide)).trans S.hT, heap_setCell_same w _ 8 _ _ _ S.hP, (k 2 (by decide) (by decide)).trans S.hH, (k 3 (by decide) (by decide)).trans S.hL, (k 4 (by decide) (by decide)).trans S.hD, (k 5 (by decide) (by decide)).trans S.hO, S.hM.of_block (k 6 (by decide) (by decide)), fun t ht => (S.hh t ht).of_block (k (7 + t) (by omega) (by omega)), r1, r2, r3, r4⟩

/-- 'p.places[..] = ..' -/
theorem PS.setM (S : PS w C x) (O : C.Ok) (h : w.mapTurned w' (C.a 6)) {n : Nat} {f : Nat → Option Value} (hm : MapN w' (C.a 6) n f) : PS w' C { x with plm := f, nM := n } := by
  obtain ⟨k, r1, r2, r3, r4⟩ := S.one O 6 (by decide) (keeps_turned h)
  exact ⟨(k 0 (by decide) (by decide)).trans S.hT, (k 1 (by decide) (by decide)).trans S.hP, (k 2 (by decide) (by decide)).trans S.hH, (k 3 (by decide) (by decide)).trans S.hL, (k 4 (by decide) (by decide)).trans S.hD, (k 5 (by decide) (by decide)).trans S.hO, hm, fun t ht => (S.hh t ht).of_block (k (7 + t) (by omega) (by omega)), r1, r2, r3, r4⟩

/-- 'delete(p.held[s], m)' -/
theorem PS.drop (S : PS w C x) (O : C.Ok) (s m : Nat) (hs : s < 3) (h : w.mapTurned w' (C.a (7 + s))) {n : Nat} (hn : n ≤ x.nH) (hm : MapN w' (C.a (7 + s)) n (updF (fun m => (x.hv s m).map bodyV) m none)) : PS w' C { x with hv := updF x.hv s (updF (x.hv s) m none) } := by
  obtain ⟨k, r1, r2, r3, r4⟩ := S.one O (7 + s) (by omega) (keeps_turned h)
  refine ⟨(k 0 (by decide) (by omega)).trans S.hT, (k 1 (by decide) (by omega)).trans S.hP, (k 2 (by decide) (by omega)).trans S.hH, (k 3 (by decide) (by omega)).trans S.hL, (k 4 (by decide) (by omega)).trans S.hD, (k 5 (by decide) (by omega)).trans S.hO, S.hM.of_block (k 6 (by decide) (by omega)), fun t ht => ?_, r1, r2, fun t q bb i hq => ?_, r4⟩
  · by_cases hts : t = s
    · subst hts
      have e : (fun q => ((updF x.hv t (updF (x.hv t) m none)) t q).map bodyV) = updF (fun m => (x.hv t m).map bodyV) m none := by
        funext q
        unfold updF
        rw [if_pos rfl]
        split <;> rfl
      show MapN w' _ x.nH (fun q => ((updF x.hv t (updF (x.hv t) m none)) t q).map bodyV)
      rw [e]
      exact hm.mono hn
    · have e : updF x.hv s (updF (x.hv s) m none) t = x.hv t := by unfold updF; rw [if_neg hts]
      show MapN w' _ x.nH (fun q => ((updF x.hv s (updF (x.hv s) m none)) t q).map bodyV)
      rw [e]
      exact (S.hh t ht).of_block (k (7 + t) (by omega) (by omega))
  · refine r3 t q bb i ?_
    revert hq
    show updF x.hv s (updF (x.hv s) m none) t q = _ → _
    unfold updF
    split
    · subst_vars
      dsimp only
      split
      · intro h; cases h
      · exact id
    · exact id

/-- 'p.held[s][m] = body' -/
theorem PS.put (S : PS w C x) (O : C.Ok) (s m bb i : Nat) (hs : s < 3) (h : w.mapTurned w' (C.a (7 + s))) {n : Nat} (hn : x.nH ≤ n) (hm : MapN w' (C.a (7 + s)) n (updF (fun m => (x.hv s m).map bodyV) m (some (bodyV (bb, i)))))
    (hb : w.heap[bb]? = some (.cells #[.int .u8 ((i % 256 : Nat) : Int), .int .u8 ((i / 256 : Nat) : Int)] 5)) (hbb : C.base ≤ bb) (hi : i < 65536) : PS w' C { x with hv := updF x.hv s (updF (x.hv s) m (some (bb, i))), nH := n } := by
  have kk := keeps_turned h
  obtain ⟨k, r1, r2, r3, r4⟩ := S.one O (7 + s) (by omega) kk
  refine ⟨(k 0 (by decide) (by omega)).trans S.hT, (k 1 (by decide) (by omega)).trans S.hP, (k 2 (by decide) (by omega)).trans S.hH, (k 3 (by decide) (by omega)).trans S.hL, (k 4 (by decide) (by omega)).trans S.hD, (k 5 (by decide) (by omega)).trans S.hO, S.hM.of_block (k 6 (by decide) (by omega)), fun t ht => ?_, r1, r2, fun t q b2 i2 hq => ?_, r4⟩
  · by_cases hts : t = s
    · subst hts
      have e : (fun q => ((updF x.hv t (updF (x.hv t) m (some (bb, i)))) t q).map bodyV) = updF (fun m => (x.hv t m).map bodyV) m (some (bodyV (bb, i))) := by
        funext q
        unfold updF
        rw [if_pos rfl]
        split <;> rfl
      show MapN w' _ n (fun q => ((updF x.hv t (updF (x.hv t) m (some (bb, i)))) t q).map bodyV)
      rw [e]
      exact hm
    · have e : updF x.hv s (updF (x.hv s) m (some (bb, i))) t = x.hv t := by unfold updF; rw [if_neg hts]
      show MapN w' _ n (fun q => ((updF x.hv s (updF (x.hv s) m (some (bb, i)))) t q).map bodyV)
      rw [e]
      exact ((S.hh t ht).of_block (k (7 + t) (by omega) (by omega))).mono hn
  · have hnew : w'.heap[bb]? = some (.cells #[.int .u8 ((i % 256 : Nat) : Int), .int .u8 ((i / 256 : Nat) : Int)] 5) ∧ C.base ≤ bb ∧ i < 65536 :=
      ⟨(kk.block bb (Array.getElem?_eq_some_iff.1 hb).1 (by have := O.lt (7 + s) (by omega); omega)).trans hb, hbb, hi⟩
    revert hq
    show updF x.hv s (updF (x.hv s) m (some (bb, i))) t q = _ → _
    unfold updF
    split
    · rename_i ht
      subst ht
      dsimp only
      split
      · intro h
        cases h
        exact hnew
      · exact r3 t q b2 i2
    · exact r3 t q b2 i2

/-- 'p.t.Broadcast(..)' -/
theorem PS.sent (S : PS w C x) (O : C.Ok) {bv' : Value} {n : Nat} {xs : List Value} (hT : w'.heap[C.a 0]? = some (.cells #[bv', x.dw] 28)) (ho : w'.ownsRow C.base 51 17 bv' n xs) (hk : Keeps (fun k => k = C.a 0 ∨ some k = x.bv.ownBlock) w w') : PS w' C { x with bv := bv', nb := n, bx := xs } := by
  have lt : ∀ i, i < 10 → C.a i < w.heap.size := fun i hi => Nat.lt_of_lt_of_le (O.lt i hi) S.hbase
  have far : ∀ k, k < C.base → some k ≠ x.bv.ownBlock := fun k hk' e => by have := (S.ob.lt k e.symm).1; omega
  have k : ∀ i, i < 10 → i ≠ 0 → w'.heap[C.a i]? = w.heap[C.a i]? := fun i hi h0 => hk.block _ (lt i hi) (by rintro (h | h); exact O.ne i 0 hi (by decide) h0 h; exact far _ (O.lt i hi) h)
  have l0 := O.lt 0 (by decide)
  refine ⟨hT, (k 1 (by decide) (by decide)).trans S.hP, (k 2 (by decide) (by decide)).trans S.hH, (k 3 (by decide) (by decide)).trans S.hL, (k 4 (by decide) (by decide)).trans S.hD, (k 5 (by decide) (by decide)).trans S.hO, S.hM.of_block (k 6 (by decide) (by decide)), fun t ht => (S.hh t ht).of_block (k (7 + t) (by omega) (by omega)), ho,
    own_of_block S.od (fun b hb => ?_), fun s m bb i h => ?_, Nat.le_trans S.hbase hk.size⟩
  · obtain ⟨_, h2 | ⟨g, cap, cur, hg, h3, h4, _⟩⟩ := S.od
    · rw [h2.1] at hb; simp [Value.ownBlock] at hb
    · rw [hg] at hb
      simp [Value.ownBlock] at hb
      subst hb
      refine hk.block g (Array.getElem?_eq_some_iff.1 h4).1 ?_
      rintro (h | h)
      · omega
      · exact own_ne S.ob h4 (by decide) h.symm
  · obtain ⟨h1, h2, h3⟩ := S.bod s m bb i h
    refine ⟨(hk.block bb (Array.getElem?_eq_some_iff.1 h1).1 ?_).trans h1, h2, h3⟩
    rintro (h | h)
    · omega
    · exact own_ne S.ob h1 (by decide) h.symm

/-- 'p.t.Deliver(..)' -/
theorem PS.told (S : PS w C x) (O : C.Ok) {dw' : Value} {n : Nat} {xs : List Value} (hT : w'.heap[C.a 0]? = some (.cells #[x.bv, dw'] 28)) (ho : w'.ownsRow C.base 46 2 dw' n xs) (hk : Keeps (fun k => k = C.a 0 ∨ some k = x.dw.ownBlock) w w') : PS w' C { x with dw := dw', nd := n, dx := xs } := by
  have lt : ∀ i, i < 10 → C.a i < w.heap.size := fun i hi => Nat.lt_of_lt_of_le (O.lt i hi) S.hbase
  have far : ∀ k, k < C.base → some k ≠ x.dw.ownBlock := fun k hk' e => by have := (S.od.lt k e.symm).1; omega
  have k : ∀ i, i < 10 → i ≠ 0 → w'.heap[C.a i]? = w.heap[C.a i]? := fun i hi h0 => hk.block _ (lt i hi) (by rintro (h | h); exact O.ne i 0 hi (by decide) h0 h; exact far _ (O.lt i hi) h)
  have l0 := O.lt 0 (by decide)
  refine ⟨hT, (k 1 (by decide) (by decide)).trans S.hP, (k 2 (by decide) (by decide)).trans S.hH, (k 3 (by decide) (by decide)).trans S.hL, (k 4 (by decide) (by decide)).trans S.hD, (k 5 (by decide) (by decide)).trans S.hO, S.hM.of_block (k 6 (by decide) (by decide)), fun t ht => (S.hh t ht).of_block (k (7 + t) (by omega) (by omega)),
    own_of_block S.ob (fun b hb => ?_), ho, fun s m bb i h => ?_, Nat.le_trans S.hbase hk.size⟩
  · obtain ⟨_, h2 | ⟨g, cap, cur, hg, h3, h4, _⟩⟩ := S.ob
    · rw [h2.1] at hb; simp [Value.ownBlock] at hb
    · rw [hg] at hb
      simp [Value.ownBlock] at hb
      subst hb
      refine hk.block g (Array.getElem?_eq_some_iff.1 h4).1 ?_
      rintro (h | h)
      · omega
      · exact own_ne S.od h4 (by decide) h.symm
  · obtain ⟨h1, h2, h3⟩ := S.bod s m bb i h
    refine ⟨(hk.block bb (Array.getElem?_eq_some_iff.1 h1).1 ?_).trans h1, h2, h3⟩
    rintro (h | h)
    · omega
    · exact own_ne S.od h1 (by decide) h.symm
end
end Go.Proofs.YbulkanjaFmt.Tot
