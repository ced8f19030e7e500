/-
  THE WALK of ordering.LawS1950CPlace (4).
-/
import Derived.Test.YbulkanjaPlaceMid
namespace Go.Proofs.Ybulkanja.Place
open Go.RowKit Go.Maps Go.Proofs.Ybulkanja.MapsF Go.Proofs.Ybulkanja.Orders
set_option linter.unusedVariables false

set_option maxRecDepth 100000 in
set_option maxHeartbeats 3200000 in
theorem law_walk (a : Option Addr) (len cap b o : Nat) (x : Nat → Int) (start given a3 : Int) (s os qs : Nat) (w : World) (hl : len ≤ 1024) (N : Nums w a len cap b o x) (h3 : 0 ≤ a3 ∧ a3 ≤ 255) (hst : (Lit.int .u64 start).wf = true) (hgi : (Lit.int .u64 given).wf = true)
    (hs : a3 % 3 = (s : Int)) (ho : ((s : Int) + 1) % 3 = (os : Int)) (hq : ((s : Int) + 2) % 3 = (qs : Int)) :
    Calls Yba.prog 4 #[.slice a len cap, .int .u64 start, .int .u64 given, .int .u8 a3] w fun e w' => e = .returned (.bool true) ∧ Below w.heap.size w w' := by
  have hl' : (len : Int) ≤ 1024 := by omega
  have hmm := @run_makeMap Yba.prog
  have ws := wf_u64 hst
  have wg := wf_u64 hgi
  have HWS := hide ws
  have HWG := hide wg
  clear hst hgi ws wg
  have HN := hide N
  have s3 : s < 3 := by omega
  have o3 : os < 3 := by omega
  have s3' : (s : Int) < 3 := by omega
  have o3' : (os : Int) < 3 := by omega
  have q3 : qs < 3 := by omega
  have q3' : (qs : Int) < 3 := by omega
  have so : s ≠ os := by omega
  have sq : s ≠ qs := by omega
  clear N
  go_enter Yba.func4, Yba.ntmps4
  rw [← graft_drop 11 (Code.seq _ _)]
  generalize hR : dropSeq 11 (Code.seq _ _) = R
  have HR := hide hR
  clear hR
  simp only [graft]
  go_wp2
  clear hmm
  go_loopw [40, 14] (fun i _ wr => ∃ k : Nat, k ≤ len ∧ i = .int .i64 k ∧ (∀ j, j < 3 → wr.cell? ⟨w.heap.size + 1 + 1 + 1, j, none⟩ = some (.map (some (w.heap.size + j)))) ∧ (∃ sz, MapIs Yba.prog wr 30 (w.heap.size + s) k sz (heldM x start k)) ∧
      MapIs Yba.prog wr 30 (w.heap.size + os) 0 0 (fun _ => none) ∧ Below w.heap.size w wr ∧ w.heap.size + 4 ≤ wr.heap.size) (fun i _ _ => len - (intOf i).toNat)
  case atStart => exact ⟨0, Nat.zero_le _, rfl, fun j hj => held0_cell w j hj, ⟨0, mapIs_made_at Yba.prog 30 (held0_map w s s3)⟩, mapIs_made_at Yba.prog 30 (held0_map w os o3), held0_below w, Nat.le_of_eq (held0_size w).symm⟩
  case round =>
    obtain ⟨k, hk, rfl, hcH, ⟨sz, hms⟩, hmo, hB, hz⟩ := hrel
    have ch := hcH s s3
    by_cases hlt : k < len
    · have xk := HN.out.rng k
      have ck := (hB.cell (p := ⟨b, o + k, none⟩) (HN.out.lt (by omega))).trans (HN.out.cell k hlt)
      have ik := HN.out.idx k hlt
      have k0 : (k : Int) < (len : Int) := by omega
      obtain ⟨w1, hrun, hms1, ht1⟩ := hms.store law30 (t := 84) (e := 22) Yba.underlying84 (by unfold maxLen; omega) (key := .int .u64 (IntKind.u64.wrap (start + x k))) (val := .slice none 0 0) (key_wrap _)
      have HC := hide hcH
      have HM1 := hide hms1
      have HMO := hide hmo
      have HT := hide ht1
      have HB := hide hB
      clear hcH hms1 hmo ht1 hB hms
      go_wp2
      go_roundw
      case rel =>
        refine ⟨k + 1, by omega, by go_num, fun j hj => (turned_cell HT.out ⟨w.heap.size + 1 + 1 + 1, j, none⟩ (by simp; omega)).trans (HC.out j hj), ⟨_, HM1.out⟩, HMO.out.of_block (turned_block HT.out (by omega)), turned_below HB.out HT.out (by omega), by rw [turned_size HT.out]; exact hz⟩
      case measure => simp [intOf]; omega
    · have hkl : k = len := by omega
      subst hkl
      obtain ⟨w2, hrun, hmo2, ht2⟩ := hmo.store law30 (t := 84) (e := 22) Yba.underlying84 (by unfold maxLen; omega) (key := .int .u64 (IntKind.u64.wrap (start + 1))) (val := .slice none 0 0) (key_wrap _)
      have co := hcH os o3
      have hms2 := hms.of_block (turned_block ht2 (show w.heap.size + s ≠ w.heap.size + os by omega))
      have hcH2 : ∀ j, j < 3 → w2.cell? ⟨w.heap.size + 1 + 1 + 1, j, none⟩ = some (.map (some (w.heap.size + j))) := fun j hj => (turned_cell ht2 ⟨w.heap.size + 1 + 1 + 1, j, none⟩ (by simp; omega)).trans (hcH j hj)
      have hB2 : Below w.heap.size w w2 := turned_below hB ht2 (by omega)
      have hz2 : w.heap.size + 4 ≤ w2.heap.size := by rw [turned_size ht2]; exact hz
      have HM := hide hms2
      have HC := hide hcH2
      have HB := hide hB2
      clear hms hms2 hmo hmo2 ht2 hB hB2 hcH2 hcH hz ch
      go_wp2
      refine wp_region_order (by kernel_rfl) gDst (fun _ => false) (gPost w2.heap.size (w.heap.size + 1 + 1 + 1) start given (w2.heap.size + 1)) 238 rfl (by kernel_rfl) (by decide) (gPost_mono w2.heap.size (w.heap.size + 1 + 1 + 1) start given (w2.heap.size + 1)) ?_ ?_
      · refine ⟨?_, ?_, ?_, ?_, ?_, ?_, ?_, ?_, ?_, ?_, ?_, ?_, ?_, ?_, ?_, ?_, trivial⟩
        · intro a' wx v hb hout hdep
          clear hdep hout
          exact .inl ⟨.slice (some ⟨wx.heap.size, 0, none⟩) 3 3, wx.alloc (.cells #[.string { data := #[97] }, .string { data := #[98] }, .string { data := #[99] }] 9), by go_simp, (Below.refl _ _).alloc (Nat.le_refl _) _, ⟨_, _, _, rfl⟩, fun h => by cases h⟩
        · intro a' wx v hb hout hdep
          have e15 : a'.tmps[15]?.getD undef = .pointer (some ⟨w2.heap.size, 0, none⟩) := hout 15 (by decide)
          clear hdep hout
          exact .inl ⟨_, wx, by go_simp, Below.refl _ _, rfl, fun h => by cases h⟩
        · intro a' wx v hb hout hdep
          obtain ⟨p1, q1⟩ : a'.tmps[62]?.getD undef = v 1 ∧ v 1 = .pointer (some ⟨w2.heap.size, 0, none⟩) := hdep ⟨1, .data⟩ (by simp) rfl
          rw [q1] at p1
          clear hdep hout
          exact .inl ⟨_, wx, by go_simp, Below.refl _ _, rfl, fun h => by cases h⟩
        · intro a' wx v hb hout hdep
          have e12 : a'.tmps[12]?.getD undef = .slice (some ⟨w.heap.size + 1 + 1 + 1, 0, none⟩) 3 3 := hout 12 (by decide)
          clear hdep hout
          exact .inl ⟨_, wx, by go_simp, Below.refl _ _, rfl, fun h => by cases h⟩
        · intro a' wx v hb hout hdep
          clear hdep hout
          have hmm := @run_makeMap Yba.prog
          exact .inl ⟨.map (some wx.heap.size), wx.alloc (.map #[] 0), by go_simp, (Below.refl _ _).alloc (Nat.le_refl _) _, ⟨_, rfl, heap_alloc_new wx _, by have := hb.size; simpa using this⟩, fun h => by cases h⟩
        · intro a' wx v hb hout hdep
          have e1 : a'.tmps[1]?.getD undef = .int .u64 start := hout 1 (by decide)
          clear hdep hout
          exact .inl ⟨_, wx, by go_simp, Below.refl _ _, rfl, fun h => by cases h⟩
        · intro a' wx v hb hout hdep
          have e1 : a'.tmps[1]?.getD undef = .int .u64 start := hout 1 (by decide)
          clear hdep hout
          exact .inl ⟨_, wx, by go_simp, Below.refl _ _, rfl, fun h => by cases h⟩
        · intro a' wx v hb hout hdep
          have e1 : a'.tmps[1]?.getD undef = .int .u64 start := hout 1 (by decide)
          clear hdep hout
          exact .inl ⟨_, wx, by go_simp, Below.refl _ _, rfl, fun h => by cases h⟩
        · intro a' wx v hb hout hdep
          obtain ⟨p5, q5⟩ : a'.tmps[66]?.getD undef = v 5 ∧ v 5 = .int .u64 start := hdep ⟨5, .data⟩ (by simp) rfl
          obtain ⟨p6, q6⟩ : a'.tmps[67]?.getD undef = v 6 ∧ v 6 = .int .u64 start := hdep ⟨6, .data⟩ (by simp) rfl
          obtain ⟨p7, q7⟩ : a'.tmps[68]?.getD undef = v 7 ∧ v 7 = .int .u64 start := hdep ⟨7, .data⟩ (by simp) rfl
          rw [q5] at p5
          rw [q6] at p6
          rw [q7] at p7
          clear hdep hout
          exact .inl ⟨.slice (some ⟨wx.heap.size, 0, none⟩) 3 3, wx.alloc (.cells #[.int .u64 start, .int .u64 start, .int .u64 start] 30), by go_simp, (Below.refl _ _).alloc (Nat.le_refl _) _, ⟨_, rfl, heap_alloc_new wx _, by have := hb.size; simpa using this⟩, fun h => by cases h⟩
        · intro a' wx v hb hout hdep
          have e2 : a'.tmps[2]?.getD undef = .int .u64 given := hout 2 (by decide)
          clear hdep hout
          exact .inl ⟨_, wx, by go_simp, Below.refl _ _, rfl, fun h => by cases h⟩
        · intro a' wx v hb hout hdep
          clear hdep hout
          obtain ⟨o, hmk⟩ := mk93 wx
          exact .inl ⟨.slice (some ⟨wx.heap.size, 0, none⟩) 3 3, wx.alloc o, by go_simp, (Below.refl _ _).alloc (Nat.le_refl _) _, ⟨_, _, _, rfl⟩, fun h => by cases h⟩
        · intro a' wx v hb hout hdep
          clear hdep hout
          obtain ⟨o, hmk⟩ := mk93 wx
          exact .inl ⟨.slice (some ⟨wx.heap.size, 0, none⟩) 3 3, wx.alloc o, by go_simp, (Below.refl _ _).alloc (Nat.le_refl _) _, ⟨_, _, _, rfl⟩, fun h => by cases h⟩
        · intro a' wx v hb hout hdep
          clear hdep hout
          obtain ⟨o, hmk⟩ := mk92 wx
          exact .inl ⟨.slice (some ⟨wx.heap.size, 0, none⟩) 3 3, wx.alloc o, by go_simp, (Below.refl _ _).alloc (Nat.le_refl _) _, ⟨_, _, _, rfl⟩, fun h => by cases h⟩
        · intro a' wx v hb hout hdep
          obtain ⟨p0, q0⟩ : a'.tmps[61]?.getD undef = v 0 ∧ ∃ a n c, v 0 = .slice a n c := hdep ⟨0, .data⟩ (by simp) rfl
          obtain ⟨p2, q2⟩ : a'.tmps[63]?.getD undef = v 2 ∧ v 2 = .iface 86 (.pointer (some ⟨w2.heap.size, 0, none⟩)) := hdep ⟨2, .data⟩ (by simp) rfl
          obtain ⟨p3, q3⟩ : a'.tmps[64]?.getD undef = v 3 ∧ v 3 = .slice (some ⟨w.heap.size + 1 + 1 + 1, 0, none⟩) 3 3 := hdep ⟨3, .data⟩ (by simp) rfl
          obtain ⟨p4, q4⟩ : a'.tmps[65]?.getD undef = v 4 ∧ ∃ b, v 4 = .map (some b) ∧ wx.heap[b]? = some (.map #[] 0) ∧ w2.heap.size + 1 ≤ b := hdep ⟨4, .data⟩ (by simp) rfl
          obtain ⟨p8, q8⟩ : a'.tmps[69]?.getD undef = v 8 ∧ ∃ b, v 8 = .slice (some ⟨b, 0, none⟩) 3 3 ∧ wx.heap[b]? = some (.cells #[.int .u64 start, .int .u64 start, .int .u64 start] 30) ∧ w2.heap.size + 1 ≤ b := hdep ⟨8, .data⟩ (by simp) rfl
          obtain ⟨p9, q9⟩ : a'.tmps[70]?.getD undef = v 9 ∧ v 9 = .int .u64 given := hdep ⟨9, .data⟩ (by simp) rfl
          obtain ⟨p10, q10⟩ : a'.tmps[71]?.getD undef = v 10 ∧ ∃ a n c, v 10 = .slice a n c := hdep ⟨10, .data⟩ (by simp) rfl
          obtain ⟨p11, q11⟩ : a'.tmps[72]?.getD undef = v 11 ∧ ∃ a n c, v 11 = .slice a n c := hdep ⟨11, .data⟩ (by simp) rfl
          obtain ⟨p12, q12⟩ : a'.tmps[73]?.getD undef = v 12 ∧ ∃ a n c, v 12 = .slice a n c := hdep ⟨12, .data⟩ (by simp) rfl
          obtain ⟨m0, m1, m2, q0⟩ := q0
          obtain ⟨Mb, q4, g1, g2⟩ := q4
          obtain ⟨Lb, q8, g3, g4⟩ := q8
          obtain ⟨o0, o1, o2, q10⟩ := q10
          obtain ⟨e0, e1, e2, q11⟩ := q11
          obtain ⟨d0, d1, d2, q12⟩ := q12
          rw [q0] at p0
          rw [q2] at p2
          rw [q3] at p3
          rw [q4] at p4
          rw [q8] at p8
          rw [q9] at p9
          rw [q10] at p10
          rw [q11] at p11
          rw [q12] at p12
          clear hdep hout hb q0 q2 q3 q4 q8 q9 q10 q11 q12
          exact .inl ⟨_, wx, by go_simp, Below.refl _ _, ⟨Lb, Mb, m0, m1, m2, o0, o1, o2, d0, d1, d2, e0, e1, e2, rfl, g1, g2, g3, g4⟩, fun h => by cases h⟩
        · intro a' wx v hb hout hdep
          obtain ⟨p13, Lb, Mb, m0, m1, m2, o0, o1, o2, d0, d1, d2, e0, e1, e2, g0, g1, g2, g3, g4⟩ : a'.tmps[74]?.getD undef = v 13 ∧ gPost w2.heap.size (w.heap.size + 1 + 1 + 1) start given (w2.heap.size + 1) 13 (v 13) wx := hdep ⟨13, .data⟩ (by simp) rfl
          rw [g0] at p13
          have hlo := hb.size
          simp only [World.size_alloc] at hlo
          clear hdep hout hb
          have hL := lt_of_block g3
          have hM := lt_of_block g1
          refine .inl ⟨.pointer (some ⟨wx.heap.size, 0, none⟩), wx.alloc (.cells #[.int .i64 0, .slice m0 m1 m2, .iface 86 (.pointer (some ⟨w2.heap.size, 0, none⟩)), .int .u64 0, .int .i64 0, .slice o0 o1 o2, .slice (some ⟨w.heap.size + 1 + 1 + 1, 0, none⟩) 3 3, .map (some Mb), .int .u64 0, .int .u64 0, .slice d0 d1 d2, .int .u64 given, .slice (some ⟨Lb, 0, none⟩) 3 3, .bool false, .slice e0 e1 e2] 97), by go_simp, (Below.refl _ _).alloc (Nat.le_refl _) _, ⟨wx.heap.size, Lb, Mb, rfl, ?_⟩, fun h => by cases h⟩
          exact ⟨by simp, by simp, by simp, by simp, by simp, by simp, (Below.heap_alloc wx _ Lb hL).trans g3, (Below.heap_alloc wx _ Mb hM).trans g1, g4, g2, hlo, hL, hM⟩
        · intro a' wx v hb hout hdep
          obtain ⟨p14, Pb, Lb, Mb, g1, g2⟩ : a'.tmps[75]?.getD undef = v 14 ∧ gPost w2.heap.size (w.heap.size + 1 + 1 + 1) start given (w2.heap.size + 1) 14 (v 14) wx := hdep ⟨14, .data⟩ (by simp) rfl
          rw [g1] at p14
          clear hdep hout hb
          exact .inl ⟨_, wx, by go_simp, Below.refl _ _, ⟨Pb, Lb, Mb, rfl, g2⟩, fun h => by cases h⟩
      · intro v wx hb hpost _
        obtain ⟨Pb, Lb, Mb, h15, hpn⟩ : gPost w2.heap.size (w.heap.size + 1 + 1 + 1) start given (w2.heap.size + 1) 15 (v 15) wx := hpost 15 (by decide)
        clear hpost
        obtain ⟨v0, v1, v2, v3, v4, v5, v6, v7, v8, v9, v10, v11, v12, v13, v14, hv⟩ : ∃ v0 v1 v2 v3 v4 v5 v6 v7 v8 v9 v10 v11 v12 v13 v14, [v 0, v 1, v 2, v 3, v 4, v 5, v 6, v 7, v 8, v 9, v 10, v 11, v 12, v 13, v 14] = [v0, v1, v2, v3, v4, v5, v6, v7, v8, v9, v10, v11, v12, v13, v14] := ⟨_, _, _, _, _, _, _, _, _, _, _, _, _, _, _, rfl⟩
        simp only [List.cons.injEq, and_true] at hv
        obtain ⟨e0, e1, e2, e3, e4, e5, e6, e7, e8, e9, e10, e11, e12, e13, e14⟩ := hv
        simp only [List.size_toArray, List.length_cons, List.length_nil, Nat.reduceAdd, Nat.zero_add, List.range, List.range.loop, List.foldl_cons, List.foldl_nil, gDst, List.getD_cons_zero, List.getD_cons_succ, h15, e0, e1, e2, e3, e4, e5, e6, e7, e8, e9, e10, e11, e12, e13, e14]
        clear h15 e0 e1 e2 e3 e4 e5 e6 e7 e8 e9 e10 e11 e12 e13 e14
        go_wp2_with fail
        have hzx := hb.size
        simp only [World.size_alloc] at hzx
        have hLM : Lb ≠ Mb := fun e => by have h1 := hpn.hL; rw [e, hpn.hM] at h1; cases h1
        have b1 := hpn.bL
        have b2 := hpn.bM
        have b3 := hpn.bP
        have b4 := hpn.lp
        have b5 := hpn.mp
        have b6 := hpn.lt
        have L : Lay w2.heap.size Pb (w.heap.size + 1 + 1 + 1) Lb Mb (w.heap.size + s) wx.heap.size s := by
          refine ⟨?_, ?_, ?_, ?_, ?_, ?_, ?_, ?_, ?_, ?_, ?_, ?_, ?_, ?_, hLM, ?_, ?_, ?_, ?_, ?_, s3⟩ <;> omega
        have hbw : Below w.heap.size w wx := (HB.out.alloc (by omega) _).trans (hb.mono (by simp; omega))
        have HL := hide L
        have S : PS wx w2.heap.size Pb (w.heap.size + 1 + 1 + 1) Lb Mb (w.heap.size + s) wx.heap.size s start start given (.slice none 0 0) 0 [] k sz (heldM x start k) 0 (fun _ => none) := by
          have cl : ∀ j, j < 3 → wx.cell? ⟨Lb, j, none⟩ = some (.int .u64 start) := fun j hj => by
            rw [cell_of_row wx Lb j _ _ _ hpn.hL]
            match j, hj with
            | 0, _ => rfl
            | 1, _ => rfl
            | 2, _ => rfl
          exact ⟨(hb.cell (p := ⟨w2.heap.size, 0, none⟩) (by simp)).trans (World.cell?_alloc_at _ _ _ _ rfl), (hb.cell (p := ⟨w2.heap.size, 1, none⟩) (by simp)).trans (World.cell?_alloc_at _ _ _ _ rfl), (hb.frozen (p := ⟨w2.heap.size, 0, none⟩) (by simp)).trans (World.frozen?_alloc_at _ _ _ _ rfl),
            World.ownsRow_nil _ _ _ _, hpn.cP2, hpn.cP6, hpn.cP7, hpn.cP11, hpn.fP11, hpn.cP12, (hb.cell (p := ⟨w.heap.size + 1 + 1 + 1, s, none⟩) (by simp; omega)).trans ((World.cell?_alloc_past _ _ _ (by omega)).trans (HC.out s s3)),
            (HM.out.alloc _).below hb (by simp; omega), cl s s3, fun j hj _ => cl j hj, by simp [World.frozen?, hpn.hL], mapIs_made_at Yba.prog 30 hpn.hM, Nat.le_refl _⟩
        refine (place_any w.heap.size w2.heap.size Pb (w.heap.size + 1 + 1 + 1) Lb Mb (w.heap.size + s) wx.heap.size s start given (.slice none 0 0) k sz (heldM x start k) wx L S (by omega) (by omega) (by omega) (by omega) (fun m hm => MPs_fresh HWG.out s m hm)
          (by rw [show IntKind.u64.wrap (seqU start 255 + 1) = seqU start (255 + 1) from rfl, heldM_seq HWS.out HN.out.rng k 255 (by omega)]; exact hasN_256 HN.out.rng k)).mono ?_
        rintro e w4 ⟨rfl, c, ov, hc255, S4, hB4, hall, hno⟩
        have hB : Below w.heap.size w w4 := hbw.trans hB4
        have hin : ∀ j : Nat, j < c → hasN x ((j + 1 : Nat) : Int) k = true := fun j hj => by rw [← heldM_seq HWS.out HN.out.rng k j (by omega)]; exact hall j hj
        have hnot : hasN x ((c + 1 : Nat) : Int) k = false := by rw [← heldM_seq HWS.out HN.out.rng k c hc255]; exact hno
        have hcl : c ≤ k := count_le hin
        have N4 := HN.out.below hB
        have HIN := hide hin
        have HNOT := hide hnot
        have HB4 := hide hB
        have HS4 := hide S4
        have HN4 := hide N4
        go_wp2_with fail
        rw [← HR.out]
        exact law_mid w w4 a k cap b o x w2.heap.size Pb (w.heap.size + 1 + 1 + 1) Lb Mb (w.heap.size + s) wx.heap.size s os qs c start given ov k sz (heldM x start k) HWS HWG s3 o3 q3 so sq hc255 HB4 hl HN4 hcl HIN HNOT HS4
end Go.Proofs.Ybulkanja.Place
