/-
  A SEND AND A SELECT WITH A DEFAULT INSIDE A WALK. The kit's 'Code.wp' speaks of frames of every kind, and a communication is a step of the machine's: so it has no law there. HERE: the same notion for frames of the kind 'normal' alone ('WPn'), its rules for a sequence and a test, the way in ('calls_of_wpn') and out ('wpn_of_wp'), and the law for a region that holds ONE communication.
-/
import Derived.Test.YbulkanjaProg
import Derived.WalkKit
import Derived.Below
import Derived.Conc.LoneCalls
import Derived.Conc.LoneSelect
namespace Go.Proofs.Ybulkanja.Chan
open Go.RowKit Go.Conc

/-- 'Code.wp', of frames of the kind 'normal'. -/
def WPn (P : Program) (c : Code) (Q : Exit → Act → World → Prop) (a : Act) (w : World) : Prop :=
  ∀ (b : Frame) (k : List Item) (cs : List Frame), b.kind = .normal → ∃ e a' w', Q e a' w' ∧ Arrives P (lone (b.at a (.code c :: k)) cs w) b k cs e a' w'

section
variable {P : Program} {Q : Exit → Act → World → Prop} {a : Act} {w : World}

theorem wpn_of_wp {c : Code} (h : c.wp P Q a w) : WPn P c Q a w := fun b k cs _ => h b k cs

theorem wpn_seq {x y : Code} (h : WPn P x (Exit.then (fun a w => WPn P y Q a w) Q) a w) : WPn P (Code.seq x y) Q a w := by
  intro b k cs hk
  obtain ⟨e, a₁, w₁, hq, harr⟩ := h b (.code y :: k) cs hk
  cases e with
  | normal =>
    obtain ⟨e₂, a₂, w₂, hq₂, harr₂⟩ := hq b k cs hk
    exact ⟨e₂, a₂, w₂, hq₂, .of_steps (.head step_seq harr) harr₂⟩
  | exit id => exact ⟨_, a₁, w₁, hq, .of_steps (.one step_seq) (.pass (x := .code y) rfl (fun _ _ => .inl (by simp)) harr)⟩
  | goto l => exact ⟨_, a₁, w₁, hq, .of_steps (.one step_seq) (.pass (x := .code y) rfl (fun _ _ => .inl (by simp)) harr)⟩
  | ret => exact ⟨_, a₁, w₁, hq, .of_steps (.one step_seq) (.pass (x := .code y) rfl (fun _ _ => .inl (by simp)) harr)⟩
  | panic ch => exact ⟨_, a₁, w₁, hq, .of_steps (.one step_seq) (.pass (x := .code y) rfl (fun _ _ => .inl (by simp)) harr)⟩
  | outgrown => exact ⟨_, a₁, w₁, hq, .of_steps (.one step_seq) (.pass (x := .code y) rfl (fun _ _ => .inl (by simp)) harr)⟩

/-- A sequence whose first part is walked as ever; what follows stands behind a letter. -/
theorem wpn_seq_k {x y : Code} (h : ∀ K : Act → World → Prop, (∀ a w, WPn P y Q a w → K a w) → x.wp P (Exit.then K Q) a w) : WPn P (Code.seq x y) Q a w :=
  wpn_seq (wpn_of_wp (h _ fun _ _ h => h))

theorem wpn_cond_true {c : Operand} {x y : Code} (hc : a.eval c = .bool true) (h : WPn P x Q a w) : WPn P (Code.cond c x y) Q a w :=
  fun b k cs hk => let ⟨e, a', w', q, r⟩ := h b k cs hk; ⟨e, a', w', q, .of_steps (.one (step_cond hc)) r⟩

theorem calls_of_wpn {f : FuncId} {fn : Func} {c : Code} {args : Array Value} {R : Ending → World → Prop}
    (hf : P.funcs[f]? = some fn) (hb : fn.body = some c)
    (h : WPn P c (bodyPost P fn R) { tmps := args ++ Array.replicate (fn.ntmps - args.size) undef, defers := [] } w) :
    Calls P f args w R := by
  intro cs
  let b : Frame := { (default : Frame) with fn := f, kind := .normal }
  have henter : Frame.enter P f args .normal =
      b.at { tmps := args ++ Array.replicate (fn.ntmps - args.size) undef, defers := [] } [.code c] := by
    simp [Frame.enter, Frame.at, hf, hb, b]
  obtain ⟨e, a', w', hq, harr⟩ := h b [] cs rfl
  rw [← henter] at harr
  cases e with
  | normal =>
    obtain ⟨hd, v, hr, hR⟩ := hq
    exact ⟨.returned v, w', _, hR, Steps.trans harr (.one step_end), rfl, rfl, hd, rfl, fn, hf, hr⟩
  | ret =>
    obtain ⟨hd, v, hr, hR⟩ := hq
    obtain ⟨todo, hs⟩ := harr
    exact ⟨.returned v, w', _, hR, hs, rfl, rfl, hd, rfl, fn, hf, hr⟩
  | panic chain =>
    obtain ⟨hd, hR⟩ := hq
    obtain ⟨todo, hs⟩ := harr
    exact ⟨.panicked chain, w', _, hR, hs, rfl, rfl, hd, fn, hf⟩
  | exit id => exact hq.elim
  | goto l => exact hq.elim
  | outgrown => exact ⟨.outgrown, w', b, hq, harr.resolve_left (by simp [b]), rfl, trivial⟩

/-- The operations of a list, one behind the other, each yields a value. -/
def Runs (P : Program) (ops : Array Oper) : List Nat → Act → World → Act → World → Prop
  | [], a, w, a', w' => a' = a ∧ w' = w
  | i :: r, a, w, a', w' => ∃ o v w1, ops[i]? = some o ∧ Region.wanted o (yielded ops a.tmps) = true ∧ (execOp a.eval o).run P w = .ok (.value v) w1 ∧ Runs P ops r (a.put o.dst v) w1 a' w'

theorem runs_steps {ops : Array Oper} : ∀ (l : List Nat) (a : Act) (w : World) (a' : Act) (w' : World), Runs P ops l a w a' w' → ∀ (b : Frame) (k : List Item) (cs : List Frame) (r : List Nat),
    Steps P (lone (b.at a (.inRegion ops (l ++ r) :: k)) cs w) (lone (b.at a' (.inRegion ops r :: k)) cs w')
  | [], _, _, _, _, ⟨h1, h2⟩, b, k, cs, r => by subst h1; subst h2; exact Steps.refl _ _
  | i :: l, a, w, a', w', ⟨o, v, w1, ho, hw, hr, hrest⟩, b, k, cs, r => by
    have ih := runs_steps l _ _ _ _ hrest b k cs r
    refine Steps.head (step_lone_go ?_) ih
    have hg := stepG_op (P := P) (b := b) (k := k) (cs := cs) (w := w) (rest := l ++ r) ho hw
    have hfin : (b.at a (.inRegion ops (i :: (l ++ r)) :: k)).finish v = b.at (a.put o.dst v) (.inRegion ops (l ++ r) :: k) := by
      rw [Frame.finish_at, ho]; rfl
    rw [List.cons_append, hg, ← hfin]
    simp [stepG.apply, hr]

/-- A REGION THAT HOLDS ONE COMMUNICATION: what comes before it, one step of the machine's, what comes behind. -/
theorem wpn_region_comm {id : Nat} {ops : Array Oper} {pre post : List Nat} {i : Nat} {a1 a2 a3 : Act} {w1 w2 w3 : World} (hl : List.range ops.size = pre ++ (i :: post))
    (h1 : Runs P ops pre a w a1 w1) (hc : ∀ (b : Frame) (k : List Item) (cs : List Frame), b.kind = .normal → step P (solo (G (b.at a1 (.inRegion ops (i :: post) :: k)) cs) w1) = .next (solo (G (b.at a2 (.inRegion ops post :: k)) cs) w2))
    (h2 : Runs P ops post a2 w2 a3 w3) (hQ : Q .normal a3 w3) : WPn P (Code.region id ops false) Q a w := by
  intro b k cs hk
  refine ⟨.normal, a3, w3, hQ, ?_⟩
  have s1 := runs_steps pre a w a1 w1 h1 b k cs (i :: post)
  have s2 := runs_steps post a2 w2 a3 w3 h2 b k cs []
  rw [List.append_nil] at s2
  have hc' := hc b k cs hk
  rw [← lone_eq_solo, ← lone_eq_solo] at hc'
  refine Steps.head step_region ?_
  rw [hl]
  exact (s1.trans (.one hc')).trans (s2.trans (.one step_region_end))

/-- 'select { case c <- v: default: }', room in the buffer: index 0. -/
theorem wpn_select_room {id : Nat} {ops : Array Oper} {pre post : List Nat} {i : Nat} {o : Oper} {a1 a3 : Act} {w1 w3 : World} {c cap s r : Nat} {buf : Array Value} {v z : Value} {tm : Bool} (hl : List.range ops.size = pre ++ (i :: post))
    (h1 : Runs P ops pre a w a1 w1) (ho : ops[i]? = some o) (hw : Region.wanted o (yielded ops a1.tmps) = true) (hr : (execOp a1.eval o).run P w1 = .ok (.comm #[scase c v z] false .select) w1)
    (hc : w1.heap[c]? = some (.chan cap buf false s r tm)) (hroom : buf.size < cap) (h2 : Runs P ops post (a1.put o.dst (.tuple #[goInt 0, .bool false])) (w1.setChan c cap (buf.push v) false (s + 1) r tm) a3 w3) (hQ : Q .normal a3 w3) :
    WPn P (Code.region id ops false) Q a w :=
  wpn_region_comm hl h1 (fun b k cs hk => by
    have hs := step_lone_select_send_room (P := P) (cs := cs) (stepG_comm (b := b) (k := k) (cs := cs) (rest := post) (main := true) ho hw (by rw [hk]; decide) hr) hc hroom
    rw [Frame.finish_at, ho] at hs
    exact hs) h2 hQ

/-- .. no room: the default: index -1. -/
theorem wpn_select_full {id : Nat} {ops : Array Oper} {pre post : List Nat} {i : Nat} {o : Oper} {a1 a3 : Act} {w1 w3 : World} {c cap s r : Nat} {buf : Array Value} {v z : Value} {tm : Bool} (hl : List.range ops.size = pre ++ (i :: post))
    (h1 : Runs P ops pre a w a1 w1) (ho : ops[i]? = some o) (hw : Region.wanted o (yielded ops a1.tmps) = true) (hr : (execOp a1.eval o).run P w1 = .ok (.comm #[scase c v z] false .select) w1)
    (hc : w1.heap[c]? = some (.chan cap buf false s r tm)) (hfull : cap ≤ buf.size) (h2 : Runs P ops post (a1.put o.dst (.tuple #[goInt (-1), .bool false])) w1 a3 w3) (hQ : Q .normal a3 w3) :
    WPn P (Code.region id ops false) Q a w :=
  wpn_region_comm hl h1 (fun b k cs hk => by
    have hs := step_lone_select_send_full (P := P) (cs := cs) (stepG_comm (b := b) (k := k) (cs := cs) (rest := post) (main := true) ho hw (by rw [hk]; decide) hr) hc hfull
    rw [Frame.finish_at, ho] at hs
    exact hs) h2 hQ

/-- 'c <- v', room in the buffer. -/
theorem wpn_send_room {id : Nat} {ops : Array Oper} {pre post : List Nat} {i : Nat} {o : Oper} {a1 a3 : Act} {w1 w3 : World} {c cap s r : Nat} {buf : Array Value} {v z : Value} {tm : Bool} (hl : List.range ops.size = pre ++ (i :: post))
    (h1 : Runs P ops pre a w a1 w1) (ho : ops[i]? = some o) (hw : Region.wanted o (yielded ops a1.tmps) = true) (hr : (execOp a1.eval o).run P w1 = .ok (.comm #[scase c v z] true .send) w1)
    (hc : w1.heap[c]? = some (.chan cap buf false s r tm)) (hroom : buf.size < cap) (h2 : Runs P ops post (a1.put o.dst undef) (w1.setChan c cap (buf.push v) false (s + 1) r tm) a3 w3) (hQ : Q .normal a3 w3) :
    WPn P (Code.region id ops false) Q a w :=
  wpn_region_comm hl h1 (fun b k cs hk => by
    have hs := step_lone_send_room (P := P) (cs := cs) (stepG_comm (b := b) (k := k) (cs := cs) (rest := post) (main := true) ho hw (by rw [hk]; decide) hr) hc hroom
    rw [Frame.finish_at, ho] at hs
    exact hs) h2 hQ

end

theorem Yba.bytes39 : ∃ i, Yba.prog.info? 39 = some i ∧ i.bytes = 0 := by
  have h : (Yba.prog.info? 39).map (·.bytes) = some 0 := by kernel_rfl
  obtain ⟨i, hi, hb⟩ := Option.map_eq_some_iff.1 h
  exact ⟨i, hi, hb⟩

set_option maxRecDepth 100000 in
set_option maxHeartbeats 1000000 in
/-- wake(l) (12): a token is put into the channel if there is room. -/
theorem wake_room (A c : Nat) (s r : Nat) (w : World) (hc : w.cell? ⟨A, 6, none⟩ = some (.chan (some c))) (hb : w.heap[c]? = some (.chan 1 #[] false s r false)) :
    Calls Yba.prog 12 #[.pointer (some ⟨A, 0, none⟩)] w fun e w' => e = .returned (.tuple #[]) ∧ w' = w.setChan c 1 #[.agg #[]] false (s + 1) r false := by
  refine calls_of_wpn Yba.func12 rfl ?_
  simp only [Yba.ntmps12, List.size_toArray, List.length_cons, List.length_nil, Nat.reduceAdd, Nat.reduceSub, Array.replicate_succ, Array.replicate_zero, List.push_toArray, List.append_toArray, List.nil_append, List.cons_append]
  refine wpn_seq_k fun K hK => ?_
  go_wp2
  refine wpn_seq ?_
  refine wpn_select_room (pre := []) (post := [1, 2]) (i := 0) (w1 := w) (c := c) (cap := 1) (buf := #[]) (s := s) (r := r) (tm := false) (v := .agg #[]) (z := .agg #[]) (w3 := w.setChan c 1 #[.agg #[]] false (s + 1) r false)
    (a3 := { tmps := #[.pointer (some ⟨A, 0, none⟩), undef, .pointer (some ⟨A, 0, none⟩), .pointer (some ⟨A, 0, none⟩), .pointer (some ⟨A, 6, none⟩), .chan (some c), .agg #[], .tuple #[goInt 0, .bool false], .int .i64 0, .bool true], defers := [] }) rfl ⟨rfl, rfl⟩ rfl rfl (by simp [go_sem, execOp, scase, Act.eval]) hb (by simp) ?_ ?_
  · refine ⟨_, .int .i64 0, w.setChan c 1 #[.agg #[]] false (s + 1) r false, rfl, rfl, by simp [go_sem, execOp, Act.eval, Act.put], _, .bool true, w.setChan c 1 #[.agg #[]] false (s + 1) r false, rfl, rfl, by simp [go_sem, execOp, Act.eval, Act.put], rfl, rfl⟩
  · refine wpn_of_wp ?_
    go_wp2
    go_end0
    exact ⟨rfl, rfl⟩

set_option maxRecDepth 100000 in
set_option maxHeartbeats 1000000 in
/-- .. and if there is none, nothing happens. -/
theorem wake_full (A c : Nat) (s r : Nat) (w : World) (hc : w.cell? ⟨A, 6, none⟩ = some (.chan (some c))) (hb : w.heap[c]? = some (.chan 1 #[.agg #[]] false s r false)) :
    Calls Yba.prog 12 #[.pointer (some ⟨A, 0, none⟩)] w fun e w' => e = .returned (.tuple #[]) ∧ w' = w := by
  refine calls_of_wpn Yba.func12 rfl ?_
  simp only [Yba.ntmps12, List.size_toArray, List.length_cons, List.length_nil, Nat.reduceAdd, Nat.reduceSub, Array.replicate_succ, Array.replicate_zero, List.push_toArray, List.append_toArray, List.nil_append, List.cons_append]
  refine wpn_seq_k fun K hK => ?_
  go_wp2
  refine wpn_seq ?_
  refine wpn_select_full (pre := []) (post := [1, 2]) (i := 0) (w1 := w) (c := c) (cap := 1) (buf := #[.agg #[]]) (s := s) (r := r) (tm := false) (v := .agg #[]) (z := .agg #[]) (w3 := w)
    (a3 := { tmps := #[.pointer (some ⟨A, 0, none⟩), undef, .pointer (some ⟨A, 0, none⟩), .pointer (some ⟨A, 0, none⟩), .pointer (some ⟨A, 6, none⟩), .chan (some c), .agg #[], .tuple #[goInt (-1), .bool false], .int .i64 (-1), .bool false], defers := [] }) rfl ⟨rfl, rfl⟩ rfl rfl (by simp [go_sem, execOp, scase, Act.eval]) hb (by simp) ?_ ?_
  · refine ⟨_, .int .i64 (-1), w, rfl, rfl, by simp [go_sem, execOp, Act.eval, Act.put], _, .bool false, w, rfl, rfl, by simp [go_sem, execOp, Act.eval, Act.put], rfl, rfl⟩
  · refine wpn_of_wp ?_
    go_wp2
    go_end0
    exact ⟨rfl, rfl⟩
end Go.Proofs.Ybulkanja.Chan
