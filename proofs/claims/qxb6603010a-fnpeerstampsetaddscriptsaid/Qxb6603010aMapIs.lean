/-
  A map that the call itself makes, told by a plain function from keys to values: over 'World.ownsMap' at H := Value, each element read as itself.
-/
import Derived.Maps.OwnSet
import Derived.Maps.Views
import Derived.Below
namespace Go.Proofs.Qxb6603010a.Mp
open Go.Maps Go.RowKit
open Go.ChangeMaps Go.MapKept
open Go.WideElems (Fit rd rg pl rd_val elemAt)

/-- Each element reads as itself. -/
def tokR (v : Value) : Option (DataW Value × List MemPlace) := some (.held v, [])

/-- Block b of w is a map of s entries; at key kl it holds f kl. -/
def MapIs (P : Program) (k : TypeId) (w : World) (b : Nat) (f : Lit → Option Value) (s : Nat) : Prop :=
  ∃ D : DataW Value, w.ownsMap P k tokR b s D ∧ size D = s ∧ ∀ kl, WideAt.IsKeyLit kl → has D kl = (f kl).isSome ∧ ∀ z, D.atKey kl (.held z) = .held ((f kl).getD z)

variable {P : Program} {k : TypeId} {w : World} {b s : Nat} {f : Lit → Option Value}

theorem tight {n : Nat} {D : DataW Value} (h : w.ownsMap P k tokR b n D) : w.ownsMap P k tokR b (size D) D := by
  obtain ⟨es, clock, hb, F, hs, rfl⟩ := h
  exact ⟨es, clock, hb, F, by simp [size, length_sorted], rfl⟩

theorem made (w : World) (P : Program) (k : TypeId) : MapIs P k (w.alloc (.map #[] 0)) w.heap.size (fun _ => none) 0 :=
  ⟨.map [], World.ownsMap_made w P k tokR, rfl, fun _ _ => ⟨rfl, fun _ => rfl⟩⟩

theorem MapIs.lt (h : MapIs P k w b f s) : b < w.heap.size := let ⟨_, h, _⟩ := h; h.lt

theorem MapIs.block {w' : World} (h : MapIs P k w b f s) (hb : w'.heap[b]? = w.heap[b]?) : MapIs P k w' b f s := by
  obtain ⟨D, ⟨es, clock, hb', r⟩, h2⟩ := h
  exact ⟨D, ⟨es, clock, hb.trans hb', r⟩, h2⟩

theorem MapIs.isMapBlock (h : MapIs P k w b f s) : ∃ es clock, w.heap[b]? = some (.map es clock) := by
  obtain ⟨D, ⟨es, clock, hb', r⟩, h2⟩ := h
  exact ⟨es, clock, hb'⟩

theorem MapIs.congr {g : Lit → Option Value} (h : MapIs P k w b f s) (hfg : ∀ kl, WideAt.IsKeyLit kl → g kl = f kl) : MapIs P k w b g s := by
  obtain ⟨D, h1, h2, h3⟩ := h
  exact ⟨D, h1, h2, fun kl hk => by rw [hfg kl hk]; exact h3 kl hk⟩

/-- 'v, ok := m[k]'. -/
theorem MapIs.look_ok {t e : TypeId} (h : MapIs P k w b f s) (K : Keyed P k) (ht : P.underlying t = some (.map k e)) {z : Value} (hz : (zeroValue e).run P w = .ok z w)
    {key : Value} {kl : Lit} (hkl : WideAt.IsKeyLit kl) (hkey : keyOf P k key = some kl) :
    (Instr.lookup t (.map (some b)) key true).run P w = .ok (.tuple #[(f kl).getD z, .bool (f kl).isSome]) w := by
  obtain ⟨D, h1, h2, h3⟩ := h
  obtain ⟨v, ps, hrun, hv⟩ := h1.look_ok K ht hz (zd := .held z) (zp := []) rfl hkey
  obtain ⟨e1, e2⟩ := h3 kl hkl
  rw [e2 z] at hv
  simp only [tokR, Option.some.injEq, Prod.mk.injEq, DataW.held.injEq] at hv
  rw [hrun, hv.1, e1]

/-- 'm[k]'. -/
theorem MapIs.look {t e : TypeId} (h : MapIs P k w b f s) (K : Keyed P k) (ht : P.underlying t = some (.map k e)) {z : Value} (hz : (zeroValue e).run P w = .ok z w)
    {key : Value} {kl : Lit} (hkl : WideAt.IsKeyLit kl) (hkey : keyOf P k key = some kl) :
    (Instr.lookup t (.map (some b)) key false).run P w = .ok ((f kl).getD z) w := by
  obtain ⟨D, h1, h2, h3⟩ := h
  obtain ⟨v, ps, hrun, hv⟩ := h1.lookup K ht hz (zd := .held z) (zp := []) rfl hkey
  obtain ⟨e1, e2⟩ := h3 kl hkl
  rw [e2 z] at hv
  simp only [tokR, Option.some.injEq, Prod.mk.injEq, DataW.held.injEq] at hv
  rw [hrun, hv.1]

/-- 'len(m)'. -/
theorem MapIs.len {t e : TypeId} (h : MapIs P k w b f s) (ht : P.underlying t = some (.map k e)) (ty : TypeId) :
    (Builtin.len_ #[t] ty #[.map (some b)]).run P w = .ok (.int .i64 (s : Int)) w := by
  obtain ⟨D, h1, h2, h3⟩ := h
  rw [h1.len ht ty, h2]

/-- 'm[k] = v'. -/
theorem MapIs.store {t e : TypeId} (h : MapIs P k w b f s) (K : Keyed P k) (ht : P.underlying t = some (.map k e)) (hs : s < maxLen) {key : Value} {kl : Lit} (hkl : WideAt.IsKeyLit kl)
    (hkey : keyOf P k key = some kl) (v : Value) {g : Lit → Option Value} (hg : g kl = some v) (hgo : ∀ x, WideAt.IsKeyLit x → x ≠ kl → g x = f x) :
    ∃ w', (Instr.mapUpdate t (.map (some b)) key v).run P w = .ok () w' ∧ MapIs P k w' b g (if (f kl).isSome then s else s + 1) ∧ w.grownBy w' (some b) ∧ w'.heap.size = w.heap.size := by
  obtain ⟨D, h1, h2, h3⟩ := h
  have htidy := h1.tidy K
  obtain ⟨w', hrun, h1', ht'⟩ := h1.store K ht hs hkey (val := v) (d := .held v) (ps := []) rfl
  have hsz : size (D.put kl (.held v)) = (if (f kl).isSome then s else s + 1) := by rw [size_put htidy, (h3 kl hkl).1, h2]
  refine ⟨w', hrun, ⟨D.put kl (.held v), ?_, hsz, fun x hx => ?_⟩, ht'.grown, ?_⟩
  · rw [← hsz]; exact tight h1'
  · by_cases e : x = kl
    · subst e
      refine ⟨?_, fun z => ?_⟩
      · rw [has_put_same htidy.isMap hkl, hg]; rfl
      · rw [atKey_put_same htidy.isMap hkl, hg]; rfl
    · refine ⟨?_, fun z => ?_⟩
      · rw [has_put_other e, (h3 x hx).1, hgo x hx e]
      · rw [atKey_put_other e, (h3 x hx).2, hgo x hx e]
  · obtain ⟨es, clock, es', clock', _, rfl⟩ := ht'
    simp [setBlock]

end Go.Proofs.Qxb6603010a.Mp
