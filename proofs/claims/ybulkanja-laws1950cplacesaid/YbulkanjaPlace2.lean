/-
  THE WALK of (*total).place (8).
-/
import Derived.Test.YbulkanjaPlaceWalks
import Derived.Deep.LoopGhost
import Derived.Deep.DeepCutAuto
import Derived.OpenShut
import Derived.RegionTactic
import Derived.BigRegion
namespace Go.Proofs.Ybulkanja.Place
open Go.RowKit Go.Maps Go.Proofs.Ybulkanja.MapsF

/-- Where the state of the member lies. -/
structure Lay (T Pb Hb Lb Mb mh base s : Nat) : Prop where
  tb : T < base
  pb : Pb < base
  hb : Hb < base
  lb : Lb < base
  mb : Mb < base
  mhb : mh < base
  tp : T ≠ Pb
  tl : T ≠ Lb
  th : T ≠ Hb
  tm : T ≠ Mb
  pl : Pb ≠ Lb
  ph : Pb ≠ Hb
  pm : Pb ≠ Mb
  lh : Lb ≠ Hb
  lm : Lb ≠ Mb
  hm : Hb ≠ Mb
  mm : mh ≠ Mb
  mt : mh ≠ T
  mp : mh ≠ Pb
  ml : mh ≠ Lb
  s3 : s < 3

/-- The state of the member, as the walk of 'place' reads it. -/
structure PS (w : World) (T Pb Hb Lb Mb mh base s : Nat) (start pl gv : Int) (ov : Value) (k : Nat) (xs : List Value) (nH szH : Nat) (MH : Lit → Option Value) (km : Nat) (MP : Lit → Option Value) : Prop where
  cT0 : w.cell? ⟨T, 0, none⟩ = some ov
  cT1 : w.cell? ⟨T, 1, none⟩ = some (.int .i64 0)
  fT : w.frozen? ⟨T, 0, none⟩ = false
  own : w.ownsRow base 107 17 ov k xs
  cP2 : w.cell? ⟨Pb, 2, none⟩ = some (.iface 86 (.pointer (some ⟨T, 0, none⟩)))
  cP6 : w.cell? ⟨Pb, 6, none⟩ = some (.slice (some ⟨Hb, 0, none⟩) 3 3)
  cP7 : w.cell? ⟨Pb, 7, none⟩ = some (.map (some Mb))
  cP11 : w.cell? ⟨Pb, 11, none⟩ = some (.int .u64 gv)
  fP11 : w.frozen? ⟨Pb, 11, none⟩ = false
  cP12 : w.cell? ⟨Pb, 12, none⟩ = some (.slice (some ⟨Lb, 0, none⟩) 3 3)
  cH : w.cell? ⟨Hb, s, none⟩ = some (.map (some mh))
  hH : MapIs Yba.prog w 30 mh nH szH MH
  cL : w.cell? ⟨Lb, s, none⟩ = some (.int .u64 pl)
  cL' : ∀ j, j < 3 → j ≠ s → w.cell? ⟨Lb, j, none⟩ = some (.int .u64 start)
  fL : w.frozen? ⟨Lb, s, none⟩ = false
  hM : MapIs Yba.prog w 30 Mb km km MP
  hbase : base ≤ w.heap.size

section
variable {w w' : World} {T Pb Hb Lb Mb mh base s : Nat} {start pl gv : Int} {ov : Value} {k : Nat} {xs : List Value} {nH szH : Nat} {MH : Lit → Option Value} {km : Nat} {MP : Lit → Option Value}

/-- Nothing below base turns. -/
theorem PS.below (S : PS w T Pb Hb Lb Mb mh base s start pl gv ov k xs nH szH MH km MP) (L : Lay T Pb Hb Lb Mb mh base s) (hb : Below base w w') (ho : w'.ownsRow base 107 17 ov k xs) :
    PS w' T Pb Hb Lb Mb mh base s start pl gv ov k xs nH szH MH km MP := by
  have c : ∀ b o, b < base → w'.cell? ⟨b, o, none⟩ = w.cell? ⟨b, o, none⟩ := fun b o h => hb.cell (p := ⟨b, o, none⟩) h
  have f : ∀ b o, b < base → w'.frozen? ⟨b, o, none⟩ = w.frozen? ⟨b, o, none⟩ := fun b o h => hb.frozen (p := ⟨b, o, none⟩) h
  exact ⟨(c _ _ L.tb).trans S.cT0, (c _ _ L.tb).trans S.cT1, (f _ _ L.tb).trans S.fT, ho, (c _ _ L.pb).trans S.cP2, (c _ _ L.pb).trans S.cP6, (c _ _ L.pb).trans S.cP7, (c _ _ L.pb).trans S.cP11, (f _ _ L.pb).trans S.fP11,
    (c _ _ L.pb).trans S.cP12, (c _ _ L.hb).trans S.cH, S.hH.below hb L.mhb, (c _ _ L.lb).trans S.cL, fun j h h' => (c _ _ L.lb).trans (S.cL' j h h'), (f _ _ L.lb).trans S.fL, S.hM.below hb L.mb, Nat.le_trans S.hbase hb.size⟩

theorem PS.alloc (S : PS w T Pb Hb Lb Mb mh base s start pl gv ov k xs nH szH MH km MP) (L : Lay T Pb Hb Lb Mb mh base s) (o : Obj) : PS (w.alloc o) T Pb Hb Lb Mb mh base s start pl gv ov k xs nH szH MH km MP :=
  S.below L ((Below.refl _ _).alloc S.hbase o) (S.own.alloc o)
theorem PS.drewN (S : PS w T Pb Hb Lb Mb mh base s start pl gv ov k xs nH szH MH km MP) (n : Nat) : PS (w.drewN n) T Pb Hb Lb Mb mh base s start pl gv ov k xs nH szH MH km MP :=
  ⟨S.cT0, S.cT1, S.fT, S.own, S.cP2, S.cP6, S.cP7, S.cP11, S.fP11, S.cP12, S.cH, S.hH, S.cL, S.cL', S.fL, S.hM, S.hbase⟩
theorem PS.drew (S : PS w T Pb Hb Lb Mb mh base s start pl gv ov k xs nH szH MH km MP) : PS w.drew T Pb Hb Lb Mb mh base s start pl gv ov k xs nH szH MH km MP :=
  ⟨S.cT0, S.cT1, S.fT, S.own, S.cP2, S.cP6, S.cP7, S.cP11, S.fP11, S.cP12, S.cH, S.hH, S.cL, S.cL', S.fL, S.hM, S.hbase⟩

theorem far {w : World} {b o b' o' : Nat} {v : Value} (h : b' ≠ b) : (w.setCell ⟨b, o, none⟩ v).cell? ⟨b', o', none⟩ = w.cell? ⟨b', o', none⟩ := World.cell?_setCell_other _ _ _ _ (fun e => by cases e; exact h rfl)
theorem beside {w : World} {b o o' : Nat} {v : Value} (h : o' ≠ o) : (w.setCell ⟨b, o, none⟩ v).cell? ⟨b, o', none⟩ = w.cell? ⟨b, o', none⟩ := World.cell?_setCell_other _ _ _ _ (fun e => by cases e; exact h rfl)

/-- 'p.placed[sender] = ..' -/
theorem PS.setL (S : PS w T Pb Hb Lb Mb mh base s start pl gv ov k xs nH szH MH km MP) (L : Lay T Pb Hb Lb Mb mh base s) (x : Int) : PS (w.setCell ⟨Lb, s, none⟩ (.int .u64 x)) T Pb Hb Lb Mb mh base s start x gv ov k xs nH szH MH km MP :=
  ⟨(far L.tl).trans S.cT0, (far L.tl).trans S.cT1, by simpa using S.fT, ownsRow_setCell_below S.own (a := ⟨Lb, s, none⟩) L.lb _, (far L.pl).trans S.cP2, (far L.pl).trans S.cP6, (far L.pl).trans S.cP7, (far L.pl).trans S.cP11, by simpa using S.fP11, (far L.pl).trans S.cP12,
    (far L.lh.symm).trans S.cH, S.hH.setCell L.ml _, World.cell?_setCell_same _ _ _ S.cL, fun j h h' => (beside h').trans (S.cL' j h h'), by simpa using S.fL, S.hM.setCell L.lm.symm _, by simpa using S.hbase⟩

/-- 'p.given++' -/
theorem PS.setG (S : PS w T Pb Hb Lb Mb mh base s start pl gv ov k xs nH szH MH km MP) (L : Lay T Pb Hb Lb Mb mh base s) (x : Int) : PS (w.setCell ⟨Pb, 11, none⟩ (.int .u64 x)) T Pb Hb Lb Mb mh base s start pl x ov k xs nH szH MH km MP :=
  ⟨(far L.tp).trans S.cT0, (far L.tp).trans S.cT1, by simpa using S.fT, ownsRow_setCell_below S.own (a := ⟨Pb, 11, none⟩) L.pb _, (beside (by decide)).trans S.cP2, (beside (by decide)).trans S.cP6, (beside (by decide)).trans S.cP7, World.cell?_setCell_same _ _ _ S.cP11, by simpa using S.fP11, (beside (by decide)).trans S.cP12,
    (far L.ph.symm).trans S.cH, S.hH.setCell L.mp _, (far L.pl.symm).trans S.cL, fun j h h' => (far L.pl.symm).trans (S.cL' j h h'), by simpa using S.fL, S.hM.setCell L.pm.symm _, by simpa using S.hbase⟩

/-- 'p.places[p.given] = id' -/
theorem PS.turned (S : PS w T Pb Hb Lb Mb mh base s start pl gv ov k xs nH szH MH km MP) (L : Lay T Pb Hb Lb Mb mh base s) {km' : Nat} {MP' : Lit → Option Value} (h : w.mapTurned w' Mb) (hm : MapIs Yba.prog w' 30 Mb km' km' MP') :
    PS w' T Pb Hb Lb Mb mh base s start pl gv ov k xs nH szH MH km' MP' := by
  have c : ∀ b o, b ≠ Mb → w'.cell? ⟨b, o, none⟩ = w.cell? ⟨b, o, none⟩ := fun b o hb => turned_cell h ⟨b, o, none⟩ hb
  have f : ∀ b o, w'.frozen? ⟨b, o, none⟩ = w.frozen? ⟨b, o, none⟩ := fun b o => turned_frozen h ⟨b, o, none⟩
  have ho : w'.ownsRow base 107 17 ov k xs := by
    obtain ⟨h1, h2 | ⟨g, cap, cur, h2, h3, h4, r⟩⟩ := S.own
    · exact ⟨h1, .inl h2⟩
    · have hne : g ≠ Mb := by have := L.mb; omega
      exact ⟨h1, .inr ⟨g, cap, cur, h2, h3, (turned_block h hne).trans h4, r⟩⟩
  exact ⟨(c _ _ L.tm).trans S.cT0, (c _ _ L.tm).trans S.cT1, (f _ _).trans S.fT, ho, (c _ _ L.pm).trans S.cP2, (c _ _ L.pm).trans S.cP6, (c _ _ L.pm).trans S.cP7, (c _ _ L.pm).trans S.cP11, (f _ _).trans S.fP11, (c _ _ L.pm).trans S.cP12,
    (c _ _ L.hm).trans S.cH, S.hH.of_block (turned_block h L.mm), (c _ _ L.lm).trans S.cL, fun j h h' => (c _ _ L.lm).trans (S.cL' j h h'), (f _ _).trans S.fL, hm, by rw [turned_size h]; exact S.hbase⟩

/-- 'p.t.Broadcast(..)' -/
theorem PS.sent (S : PS w T Pb Hb Lb Mb mh base s start pl gv ov k xs nH szH MH km MP) (L : Lay T Pb Hb Lb Mb mh base s) {u : Value} {k' : Nat} {xs' : List Value} (h : Below base (w.setCell ⟨T, 0, none⟩ u) w') (ho : w'.ownsRow base 107 17 u k' xs') :
    PS w' T Pb Hb Lb Mb mh base s start pl gv u k' xs' nH szH MH km MP := by
  have c : ∀ b o, b < base → w'.cell? ⟨b, o, none⟩ = (w.setCell ⟨T, 0, none⟩ u).cell? ⟨b, o, none⟩ := fun b o hb => h.cell (p := ⟨b, o, none⟩) hb
  have f : ∀ b o, b < base → w'.frozen? ⟨b, o, none⟩ = w.frozen? ⟨b, o, none⟩ := fun b o hb => (h.frozen (p := ⟨b, o, none⟩) hb).trans (by simp)
  exact ⟨(c _ _ L.tb).trans (World.cell?_setCell_same _ _ _ S.cT0), (c _ _ L.tb).trans ((beside (by decide)).trans S.cT1), (f _ _ L.tb).trans S.fT, ho, (c _ _ L.pb).trans ((far L.tp.symm).trans S.cP2), (c _ _ L.pb).trans ((far L.tp.symm).trans S.cP6), (c _ _ L.pb).trans ((far L.tp.symm).trans S.cP7),
    (c _ _ L.pb).trans ((far L.tp.symm).trans S.cP11), (f _ _ L.pb).trans S.fP11, (c _ _ L.pb).trans ((far L.tp.symm).trans S.cP12), (c _ _ L.hb).trans ((far L.th.symm).trans S.cH), (S.hH.setCell L.mt u).below h L.mhb,
    (c _ _ L.lb).trans ((far L.tl.symm).trans S.cL), fun j hj hj' => (c _ _ L.lb).trans ((far L.tl.symm).trans (S.cL' j hj hj')), (f _ _ L.lb).trans S.fL, (S.hM.setCell L.tm.symm u).below h L.mb, Nat.le_trans (by simpa using S.hbase) h.size⟩
end

theorem law30 : Keyed Yba.prog 30 := int_keyed Yba.underlying30
theorem zero22 (w : World) : (zeroValue 22).run Yba.prog w = .ok (.slice none 0 0) w := by kernel_rfl
theorem zero101 (w : World) : (zeroValue 101).run Yba.prog w = .ok (.agg #[.int .i64 0, .int .u64 0]) w := by kernel_rfl
theorem key_wrap (x : Int) : keyOf Yba.prog 30 (.int .u64 (IntKind.u64.wrap x)) = some (.int .u64 (IntKind.u64.wrap x)) := keyOf_int_mk Yba.underlying30 (wf_wrap .u64 x)

/-- The look-up into the sender's map, in whatever world bears that block. -/
theorem look_held {w : World} {mh nH szH : Nat} {MH : Lit → Option Value} (h : MapIs Yba.prog w 30 mh nH szH MH) (x : Int) (v : Value) (b : Bool) (hv : (MH (.int .u64 (IntKind.u64.wrap x))).getD (.slice none 0 0) = v) (hb : (MH (.int .u64 (IntKind.u64.wrap x))).isSome = b) (w' : World) (hw : w'.heap[mh]? = w.heap[mh]?) :
    (Instr.lookup 84 (.map (some mh)) (.int .u64 (IntKind.u64.wrap x)) true).run Yba.prog w' = .ok (.tuple #[v, .bool b]) w' := by
  have := (h.of_block hw).look law30 (t := 84) (e := 22) Yba.underlying84 (zero22 w') (key_wrap x)
  rw [hv, hb] at this
  exact this

theorem meth_bc (a : Addr) (w : World) : (method 290 86 (.pointer (some a)) "Broadcast").run Yba.prog w = .ok (40, .pointer (some a)) w := by kernel_rfl

/-- The k-th number behind x, as a uint64. -/
def seqU (x : Int) : Nat → Int
  | 0 => x
  | k + 1 => IntKind.u64.wrap (seqU x k + 1)

/-- The packets sent behind k rounds. -/
def pks (given start : Int) (s : Nat) : Nat → List Value
  | 0 => []
  | k + 1 => pks given start s k ++ pkt (IntKind.u64.wrap (seqU given k + 1)) (IntKind.u64.wrap (seqU start k + 1)) s

/-- The places given behind k rounds. -/
def MPs (given start : Int) (s : Nat) : Nat → Lit → Option Value
  | 0 => fun _ => none
  | k + 1 => upd (MPs given start s k) (.int .u64 (IntKind.u64.wrap (seqU given k + 1))) (some (.agg #[.int .i64 s, .int .u64 (IntKind.u64.wrap (seqU start k + 1))]))

set_option maxRecDepth 100000 in
set_option maxHeartbeats 3200000 in
theorem place_any (B T Pb Hb Lb Mb mh base s : Nat) (start given : Int) (ov0 : Value) (nH szH : Nat) (MH : Lit → Option Value) (w : World)
    (L : Lay T Pb Hb Lb Mb mh base s) (S0 : PS w T Pb Hb Lb Mb mh base s start start given ov0 0 [] nH szH MH 0 (fun _ => none)) (hBT : B ≤ T) (hBP : B ≤ Pb) (hBL : B ≤ Lb) (hBM : B ≤ Mb)
    (hfr : ∀ k, k ≤ 255 → MPs given start s k (.int .u64 (IntKind.u64.wrap (seqU given k + 1))) = none) (hstop : (MH (.int .u64 (IntKind.u64.wrap (seqU start 255 + 1)))).isSome = false) :
    Calls Yba.prog 8 #[.pointer (some ⟨Pb, 0, none⟩), .int .i64 s] w fun e w' => e = .returned (.tuple #[]) ∧ ∃ k ov, k ≤ 255 ∧ PS w' T Pb Hb Lb Mb mh base s start (seqU start k) (seqU given k) ov k (pks given start s k) nH szH MH k (MPs given start s k) ∧ Below B w w' ∧
      (∀ j, j < k → (MH (.int .u64 (seqU start (j + 1)))).isSome = true) ∧ (MH (.int .u64 (seqU start (k + 1)))).isSome = false := by
  have s0 : (0 : Int) ≤ (s : Int) := by omega
  have s3 : (s : Int) < 3 := by have := L.s3; omega
  have HFR := hide hfr
  have HST := hide hstop
  clear hfr hstop
  go_enter Yba.func8, Yba.ntmps8
  go_wp2
  go_loopg [7] 256 (fun gk _ wr => ∃ k ov, gk + k = 256 ∧ k ≤ 255 ∧ PS wr T Pb Hb Lb Mb mh base s start (seqU start k) (seqU given k) ov k (pks given start s k) nH szH MH k (MPs given start s k) ∧ Below B w wr ∧ (∀ j, j < k → (MH (.int .u64 (seqU start (j + 1)))).isSome = true))
  case atStart => exact ⟨0, ov0, rfl, by omega, S0, Below.refl _ _, fun j h => by omega⟩
  case round =>
    obtain ⟨k, ov, hgk, hk, S, hB, hall⟩ := hrel
    have HB := hide hB
    have HAL := hide hall
    have HGK := hide hgk
    have hfr := HFR.out k hk
    have hlast : k = 255 → (MH (.int .u64 (IntKind.u64.wrap (seqU start k + 1)))).isSome = false := fun e => by rw [e]; exact HST.out
    have e1 : Hid (seqU start (k + 1) = IntKind.u64.wrap (seqU start k + 1)) := rfl
    have e2 : Hid (seqU given (k + 1) = IntKind.u64.wrap (seqU given k + 1)) := rfl
    have e3 : Hid (pks given start s (k + 1) = pks given start s k ++ pkt (IntKind.u64.wrap (seqU given k + 1)) (IntKind.u64.wrap (seqU start k + 1)) s) := rfl
    have e4 : Hid (MPs given start s (k + 1) = upd (MPs given start s k) (.int .u64 (IntKind.u64.wrap (seqU given k + 1))) (some (.agg #[.int .i64 s, .int .u64 (IntKind.u64.wrap (seqU start k + 1))]))) := rfl
    clear hB hall hgk
    generalize hpl : seqU start k = pl at *
    generalize hgv : seqU given k = gv at *
    generalize hxs : pks given start s k = xs at *
    generalize hMP : MPs given start s k = MP at *
    have HPL := hide hpl
    have HGV := hide hgv
    have HXS := hide hxs
    have HMP := hide hMP
    clear hpl hgv hxs hMP S0
    obtain ⟨v, hv⟩ : ∃ v, (MH (.int .u64 (IntKind.u64.wrap (pl + 1)))).getD (.slice none 0 0) = v := ⟨_, rfl⟩
    have hbase := S.hbase
    have lt1 : mh < wr.heap.size := by have := L.mhb; omega
    have lP : Pb < wr.heap.size := by have := L.pb; omega
    have lH : Hb < wr.heap.size := by have := L.hb; omega
    have lL : Lb < wr.heap.size := by have := L.lb; omega
    have lT : T < wr.heap.size := by have := L.tb; omega
    obtain ⟨cT0, cT1, fT, own, cP2, cP6, cP7, cP11, fP11, cP12, cH, hH, cL, cL', fL, hM, _⟩ := S
    cases hb : (MH (.int .u64 (IntKind.u64.wrap (pl + 1)))).isSome with
    | false =>
      have HS : Hid (PS wr T Pb Hb Lb Mb mh base s start pl gv ov k xs nH szH MH k MP) := ⟨cT0, cT1, fT, own, cP2, cP6, cP7, cP11, fP11, cP12, cH, hH, cL, cL', fL, hM, hbase⟩
      have hlook := fun n => look_held hH (pl + 1) v false hv hb ((wr.alloc (.cells #[.int .i64 s, .int .u64 (IntKind.u64.wrap (pl + 1))] 101)).drewN n) (Below.heap_alloc wr _ mh lt1)
      have HE := hide hb
      clear hv hb hH hM own cT0 cT1 fT cP2 cP7 cP11 fP11 cL' fL hfr hlast
      go_wp2
      go_quiet (fail)
      go_wp2
      refine bodyPost_ret (v := .tuple #[]) (by simp [results, Yba.results8]) rfl ?_
      refine ⟨rfl, k, ov, hk, ?_, below_drewN (HB.out.alloc (Nat.le_trans hBT (Nat.le_of_lt lT)) _) _, HAL.out, by rw [e1.out]; exact HE.out⟩
      rw [HPL.out, HGV.out, HXS.out, HMP.out]
      exact (HS.out.alloc L _).drewN _
    | true =>
      have hk2 : k ≤ 254 := by
        rcases Nat.lt_or_ge k 255 with h | h
        · omega
        · have := hlast (by omega); rw [hb] at this; cases this
      have hlook := fun n => look_held hH (pl + 1) v true hv hb ((wr.alloc (.cells #[.int .i64 s, .int .u64 (IntKind.u64.wrap (pl + 1))] 101)).drewN n) (Below.heap_alloc wr _ mh lt1)
      have HS : Hid (PS wr T Pb Hb Lb Mb mh base s start pl gv ov k xs nH szH MH k MP) := ⟨cT0, cT1, fT, own, cP2, cP6, cP7, cP11, fP11, cP12, cH, hH, cL, cL', fL, hM, hbase⟩
      have HF := hide hfr
      have HE := hide hb
      clear hv hb hH hM own cL' hfr hlast
      have pl1 := L.pl
      have lp1 := L.pl.symm
      go_wp2
      go_quiet (fail)
      clear hlook
      go_wp2
      go_region
      go_wp2
      have S4 := (((((HS.out.alloc L (.cells #[.int .i64 s, .int .u64 (IntKind.u64.wrap (pl + 1))] 101)).drewN (nq + 1)).setL L (IntKind.u64.wrap (pl + 1))).setG L (IntKind.u64.wrap (gv + 1))).drew)
      obtain ⟨w5, hrun5, hM5, ht5⟩ := S4.hM.store law30 (t := 91) (e := 101) Yba.underlying91 (by unfold maxLen; omega) (key := .int .u64 (IntKind.u64.wrap (gv + 1))) (val := .agg #[.int .i64 s, .int .u64 (IntKind.u64.wrap (pl + 1))]) (key_wrap (gv + 1))
      rw [HF.out] at hM5
      have S5 := S4.turned L ht5 hM5
      have c4 : w5.cell? ⟨wr.heap.size, 1, none⟩ = some (.int .u64 (IntKind.u64.wrap (pl + 1))) := by
        have hne : wr.heap.size ≠ Mb := by have := L.mb; omega
        have hne2 : wr.heap.size ≠ Lb := by omega
        have hne3 : wr.heap.size ≠ Pb := by omega
        rw [turned_cell ht5 ⟨wr.heap.size, 1, none⟩ hne]
        show ((((wr.alloc _).drewN (nq + 1)).setCell _ _).setCell _ _).cell? _ = _
        rw [far hne3, far hne2]
        exact World.cell?_alloc_at _ _ _ _ rfl
      have HB5 : Hid (Below B w w5) := hide (turned_below (((((HB.out.alloc (Nat.le_trans hBT (Nat.le_of_lt lT)) _).trans (below_drewN (Below.refl _ _) (nq + 1))).setCell (p := ⟨Lb, s, none⟩) hBL _).setCell (p := ⟨Pb, 11, none⟩) hBP _).drew) ht5 hBM)
      have hz5 : wr.heap.size < w5.heap.size := by rw [turned_size ht5]; simp
      have HS5 := hide S5
      clear S4 S5 hM5 ht5
      go_region
      clear hrun5 cT0 cT1 fT cP2 cP6 cP7 cP11 fP11 cP12 cH cL fL
      obtain ⟨cT0, cT1, fT, own, cP2, cP6, cP7, cP11, fP11, cP12, cH, hH, cL, cL', fL, hM, hbase5⟩ := HS5.out
      clear own hH hM cL' cT1 cP6 cP7 fP11 cP12 cH cL fL lH lL lT lP lt1 pl1 lp1
      go_wp2_with fail
      have hmeth := meth_bc
      go_region_with (go_at_call 40; refine (bcast_any T base k ov xs (IntKind.u64.wrap (gv + 1)) (IntKind.u64.wrap (pl + 1)) s w5.drew cT0 fT HS5.out.own.drew L.tb hbase5 (by omega)).mono ?_; rintro e w6 ⟨rfl, gg, cap, hb6, hown6⟩)
      all_goals
        clear hmeth
        go_wp2
        go_roundg (255 - k)
        case measure => have := HGK.out; omega
        case rel =>
          refine ⟨k + 1, .slice (some ⟨gg, 0, none⟩) (k + 1) cap, by omega, by omega, ?_, ((HB5.out.drew).setCell (p := ⟨T, 0, none⟩) hBT _).trans (hb6.mono (Nat.le_trans hBT (Nat.le_of_lt L.tb))), fun j hj => ?_⟩
          · rw [e1.out, e2.out, e3.out, e4.out]
            exact HS5.out.drew.sent L hb6 hown6
          · by_cases hjk : j = k
            · subst hjk; rw [e1.out]; exact HE.out
            · exact HAL.out j (by omega)
end Go.Proofs.Ybulkanja.Place
