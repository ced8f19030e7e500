/-
  A MAP THAT THE CALL MADE, TOLD AS A FUNCTION: the kit's 'ownsMap' (Derived/Maps/Own.lean) with every element read as itself (a token), and what stands at each key told by 'M : Lit → Option Value'. Over any program.
-/
import Derived.Maps.OwnSet
import Derived.WalkKit
import Derived.Below
namespace Go.Proofs.YbulkanjaFmt.MapsF
open Go.RowKit Go.Maps

/-- Every element reads as itself. -/
def tok (v : Value) : Option (DataW Value × List MemPlace) := some (.held v, [])

/-- Block b is a map keyed by type kt that holds just what M says; sz: how many; n: a bound on it. -/
def MapIs (P : Program) (w : World) (kt : TypeId) (b n sz : Nat) (M : Lit → Option Value) : Prop :=
  ∃ D : DataW Value, w.ownsMap P kt tok b n D ∧ Maps.size D = sz ∧ (∀ kl, Maps.has D kl = (M kl).isSome) ∧ ∀ kl z, D.atKey kl (.held z) = .held ((M kl).getD z)

def upd (M : Lit → Option Value) (kl : Lit) (v : Option Value) : Lit → Option Value := fun k => if k.sameKey kl then v else M k

theorem upd_same {M : Lit → Option Value} {kl : Lit} {v : Option Value} (hk : WideAt.IsKeyLit kl) : upd M kl v kl = v := by
  unfold upd; rw [WideAt.sameKey_self hk]; rfl
theorem upd_other {M : Lit → Option Value} {k kl : Lit} {v : Option Value} (h : k ≠ kl) : upd M kl v k = M k := by
  unfold upd; rw [sameKey_ne h]; rfl

section
variable {P : Program} {w : World} {kt : TypeId} {b n sz : Nat} {M : Lit → Option Value}

theorem MapIs.lt (h : MapIs P w kt b n sz M) : b < w.heap.size := by
  obtain ⟨D, h, _⟩ := h
  exact h.lt

theorem MapIs.block (h : MapIs P w kt b n sz M) : ∃ es clock, w.heap[b]? = some (.map es clock) := by
  obtain ⟨D, ⟨es, clock, h, _⟩, _⟩ := h
  exact ⟨es, clock, h⟩

theorem MapIs.mono {n' : Nat} (h : MapIs P w kt b n sz M) (hn : n ≤ n') : MapIs P w kt b n' sz M := by
  obtain ⟨D, h, r⟩ := h
  exact ⟨D, h.mono hn, r⟩

/-- It hangs on its block alone. -/
theorem MapIs.of_block {w' : World} (h : MapIs P w kt b n sz M) (hb : w'.heap[b]? = w.heap[b]?) : MapIs P w' kt b n sz M := by
  obtain ⟨D, ⟨es, clock, h1, h2⟩, r⟩ := h
  exact ⟨D, ⟨es, clock, hb.trans h1, h2⟩, r⟩

theorem MapIs.below {w' : World} {B : Nat} (h : MapIs P w kt b n sz M) (hb : Below B w w') (hlt : b < B) : MapIs P w' kt b n sz M := h.of_block (hb.block b hlt)
theorem MapIs.alloc (h : MapIs P w kt b n sz M) (o : Obj) : MapIs P (w.alloc o) kt b n sz M := h.of_block (Below.heap_alloc w o b h.lt)
theorem MapIs.setCell (h : MapIs P w kt b n sz M) {a : Addr} (ha : b ≠ a.block) (u : Value) : MapIs P (w.setCell a u) kt b n sz M := h.of_block (Below.heap_setCell w a u b ha)

theorem mapIs_made (P : Program) (w : World) (kt : TypeId) : MapIs P (w.alloc (.map #[] 0)) kt w.heap.size 0 0 (fun _ => none) :=
  ⟨.map [], World.ownsMap_made w P kt tok, rfl, fun _ => rfl, fun _ _ => rfl⟩

theorem mapIs_made_at (P : Program) {w : World} (kt : TypeId) {b : Nat} (h : w.heap[b]? = some (.map #[] 0)) : MapIs P w kt b 0 0 (fun _ => none) :=
  ⟨.map [], ⟨#[], 0, h, ⟨by simp, MapKept.stamped_empty 0, by simp⟩, Nat.le_refl _, rfl⟩, rfl, fun _ => rfl, fun _ _ => rfl⟩

/-- 'v, ok := m[k]'. -/
theorem MapIs.look (h : MapIs P w kt b n sz M) (K : Keyed P kt) {t e : TypeId} (ht : P.underlying t = some (.map kt e)) {z : Value} (hz : (zeroValue e).run P w = .ok z w) {key : Value} {kl : Lit} (hkey : keyOf P kt key = some kl) :
    (Instr.lookup t (.map (some b)) key true).run P w = .ok (.tuple #[(M kl).getD z, .bool (M kl).isSome]) w := by
  obtain ⟨D, hown, _, hhas, hat⟩ := h
  obtain ⟨v, ps, hrun, hv⟩ := hown.look_ok K ht hz (zd := .held z) (zp := []) rfl hkey
  rw [hhas kl] at hrun
  rw [hat kl z] at hv
  have : v = (M kl).getD z := by
    simp only [tok, Option.some.injEq, Prod.mk.injEq, DataW.held.injEq] at hv
    exact hv.1
  rw [← this]
  exact hrun

/-- 'm[k] = v'. -/
theorem MapIs.store (h : MapIs P w kt b n sz M) (K : Keyed P kt) {t e : TypeId} (ht : P.underlying t = some (.map kt e)) (hn : n < maxLen) {key val : Value} {kl : Lit} (hkey : keyOf P kt key = some kl) :
    ∃ w', (Instr.mapUpdate t (.map (some b)) key val).run P w = .ok () w' ∧ MapIs P w' kt b (n + 1) (if (M kl).isSome then sz else sz + 1) (upd M kl (some val)) ∧ w.mapTurned w' b := by
  obtain ⟨D, hown, hsz, hhas, hat⟩ := h
  obtain ⟨w', hrun, hown', hturn⟩ := hown.store K ht hn (d := .held val) (ps := []) hkey rfl
  refine ⟨w', hrun, ⟨D.put kl (.held val), hown', ?_, fun k => ?_, fun k z => ?_⟩, hturn⟩
  · rw [size_put (hown.tidy K), hhas kl, hsz]
  · by_cases hk : k = kl
    · subst hk; rw [has_put_same hown.isMap (K.key hkey), upd_same (K.key hkey)]; rfl
    · rw [has_put_other hk, hhas k, upd_other hk]
  · by_cases hk : k = kl
    · subst hk; rw [atKey_put_same hown.isMap (K.key hkey), upd_same (K.key hkey)]; rfl
    · rw [atKey_put_other hk, hat k z, upd_other hk]

/-- 'delete(m, k)'. -/
theorem MapIs.drop (h : MapIs P w kt b n sz M) (K : Keyed P kt) {t e : TypeId} (ht : P.underlying t = some (.map kt e)) {key : Value} {kl : Lit} (hkey : keyOf P kt key = some kl) (ty : TypeId) :
    ∃ w', (Builtin.delete_ #[t, kt] ty #[.map (some b), key]).run P w = .ok (.tuple #[]) w' ∧ MapIs P w' kt b n (if (M kl).isSome then sz - 1 else sz) (upd M kl none) ∧ w.mapTurned w' b := by
  obtain ⟨D, hown, hsz, hhas, hat⟩ := h
  obtain ⟨w', hrun, hown', hturn⟩ := hown.drop K ht hkey ty
  refine ⟨w', hrun, ⟨D.del kl, hown', ?_, fun k => ?_, fun k z => ?_⟩, hturn⟩
  · have := size_del (k := kl) (hown.tidy K)
    rw [hhas kl, hsz] at this
    split <;> simp_all <;> omega
  · by_cases hk : k = kl
    · subst hk; rw [has_del_same, upd_same (K.key hkey)]; rfl
    · rw [has_del_other hk, hhas k, upd_other hk]
  · by_cases hk : k = kl
    · subst hk; rw [atKey_del_same, upd_same (K.key hkey)]; rfl
    · rw [atKey_del_other hk, hat k z, upd_other hk]

/-- 'len(m)'. -/
theorem MapIs.len (h : MapIs P w kt b n sz M) {t e : TypeId} (ht : P.underlying t = some (.map kt e)) (ty : TypeId) : (Builtin.len_ #[t] ty #[.map (some b)]).run P w = .ok (.int .i64 sz) w := by
  obtain ⟨D, hown, hsz, _⟩ := h
  rw [hown.len ht ty, hsz]

/-- What a store into, or a strike from, the map leaves of other blocks. -/
theorem turned_block {w' : World} (h : w.mapTurned w' b) {k : Nat} (hk : k ≠ b) : w'.heap[k]? = w.heap[k]? := by
  obtain ⟨es, clock, es', clock', hb, rfl⟩ := h
  have hne : b ≠ k := fun e => hk e.symm
  simp [ChangeMaps.setBlock, Array.getElem?_setIfInBounds_ne hne]

theorem turned_size {w' : World} (h : w.mapTurned w' b) : w'.heap.size = w.heap.size := by
  obtain ⟨es, clock, es', clock', hb, rfl⟩ := h
  simp [ChangeMaps.setBlock]

theorem turned_below {w0 w' : World} {B : Nat} (h0 : Below B w0 w) (h : w.mapTurned w' b) (hB : B ≤ b) : Below B w0 w' := by
  obtain ⟨es, clock, es', clock', hb, rfl⟩ := h
  refine h0.trans ⟨rfl, rfl, rfl, by simp [ChangeMaps.setBlock], fun k hk => ?_⟩
  have hne : b ≠ k := by omega
  simp [ChangeMaps.setBlock, Array.getElem?_setIfInBounds_ne hne]

theorem turned_cell {w' : World} (h : w.mapTurned w' b) (a : Addr) (ha : a.block ≠ b) : w'.cell? a = w.cell? a := World.cell?_of_block (w := w) (turned_block h ha)
theorem turned_frozen {w' : World} (h : w.mapTurned w' b) (a : Addr) : w'.frozen? a = w.frozen? a := h.frozen a
end
end Go.Proofs.YbulkanjaFmt.MapsF
