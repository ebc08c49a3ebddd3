import Derived.Test.Qxb6603010aWhole
import Derived.ProofKit
import Derived.OpenShut
import Derived.Deep.Slices
namespace Go.Proofs.Qxb6603010a.Pr
open Go.ChangeShapes Go.WideShapes Go.ChangeAt Go.RowKit

theorem addr_of {w : World} {x : Addr} {v : Value} (h : w.cell? (x.add 0) = some v) : ∃ b off, x = ⟨b, off, none⟩ := by
  obtain ⟨b, off, spot⟩ := x
  have hs : spot = none := by simpa [Addr.add] using World.cell?_spot h
  subst hs
  exact ⟨b, off, rfl⟩
theorem add_none (b off j : Nat) : (⟨b, off, none⟩ : Addr).add j = ⟨b, off + j, none⟩ := by unfold Addr.add; split <;> simp_all

/-- one slice of bytes, from its reading -/
theorem open_bytes {H : Type} {enc : TypeId × Value → H} {w : World} {base : Nat} {held : Bool} {n : Nat} {cs : List Value} {y : DataW H × List MemPlace}
    (h : DataW.trod enc Try.prog w base (fun _ => true) held n 24 cs = some y) :
    ∃ r : Rw, cs = [.slice r.a r.n r.c] ∧ Rd w r.a r.n r.zs ∧ r.n ≤ maxLen ∧ Byt r.zs ∧ (0 < r.n → ∃ x, r.a = some x ∧ x.block < w.heap.size) := by
  rcases open_ints Try.underlying24 Try.underlying5 (by kernel_rfl) h with ⟨hcs, _⟩ | ⟨x, l, c, zs, hcs, _, hl, hm, hz, _, hcell, hwz⟩
  · exact ⟨⟨none, 0, 0, []⟩, hcs, ⟨rfl, fun _ => rfl, fun h => absurd h (Nat.lt_irrefl _)⟩, Nat.zero_le _, (fun x hx => by cases hx), fun h => absurd h (Nat.lt_irrefl _)⟩
  · have hzl : zs.length = c := by simpa using hz
    refine ⟨⟨some x, l, c, zs.take l⟩, hcs, ⟨by simp; omega, (fun h => by cases h), fun hp => ?_⟩, Nat.le_trans hl hm, fun z hz => bounds_u8 (hwz z (List.mem_of_mem_take hz)), fun hp => ⟨x, rfl, ?_⟩⟩
    · have h0 := hcell 0 (by dsimp only at hp; omega)
      obtain ⟨b, off, rfl⟩ := addr_of h0
      refine ⟨b, off, rfl, fun i hi => ?_⟩
      dsimp only at hi
      have hc := hcell i (by omega)
      rw [add_none] at hc
      rw [hc]
      simp [hi]
    · have h0 := hcell 0 (by dsimp only at hp; omega)
      have := World.block_lt_of_cell? w _ h0
      obtain ⟨b, off, rfl⟩ := addr_of h0
      rw [add_none] at this
      exact this

/-- a slice of slices of bytes, from its reading -/
theorem open_rows {H : Type} {enc : TypeId × Value → H} {w : World} {base : Nat} {held : Bool} {fuel : Nat} {a0 : Option Addr} {len0 cap0 : Nat} {y : DataW H × List MemPlace}
    (hf : DataW.trod enc Try.prog w base (fun _ => true) held fuel 22 [.slice a0 len0 cap0] = some y) :
    ∃ rs : List Rw, len0 ≤ maxLen ∧ rs.length = len0 ∧ RowsAt w.heap.size w a0 rs ∧ Ok rs := by
  rcases Deep.open_slice1 Try.underlying22 (by kernel_rfl) hf with ⟨hcs, _⟩ | ⟨x, l, c, m, n, V, D, Pl, hcs, _, hl, hm, hmm, _, hx⟩
  · simp at hcs
    obtain ⟨rfl, rfl, rfl⟩ := hcs
    exact ⟨[], Nat.zero_le _, rfl, (fun h => by simp at h), (fun r hr => by cases hr)⟩
  · simp at hcs
    obtain ⟨rfl, rfl, rfl⟩ := hcs
    simp only [if_true] at hmm
    subst hmm
    have each : ∀ i, i < len0 → ∃ r : Rw, w.cell? (x.add i) = some (.slice r.a r.n r.c) ∧ Rd w r.a r.n r.zs ∧ r.n ≤ maxLen ∧ Byt r.zs ∧ (0 < r.n → ∃ x, r.a = some x ∧ x.block < w.heap.size) := by
      intro i hi
      obtain ⟨h1, h2⟩ := hx i (by omega)
      obtain ⟨r, e, h3⟩ := open_bytes h2
      simp only [List.cons.injEq, and_true] at e
      rw [e] at h1
      exact ⟨r, h1, h3⟩
    obtain ⟨q, hq⟩ := @Deep.choose_lt Rw ⟨rw0⟩ len0 _ each
    have eq : ∀ i, i < len0 → R ((List.range len0).map q) i = q i := by
      intro i hi
      unfold R
      simp [hi]
    refine ⟨(List.range len0).map q, Nat.le_trans hl hm, by simp, ?_, ?_⟩
    · intro h0
      have h0' : 0 < len0 := by simpa using h0
      have hc0 := (hq 0 h0').1
      have hlt := World.block_lt_of_cell? w _ hc0
      obtain ⟨b, off, rfl⟩ := addr_of hc0
      rw [add_none] at hlt
      refine ⟨b, off, rfl, hlt, fun i hi => ?_⟩
      have hi' : i < len0 := by simpa using hi
      rw [eq i hi']
      obtain ⟨h1, h2, _, _, h5⟩ := hq i hi'
      rw [add_none] at h1
      exact ⟨h1, h2, h5⟩
    · intro r hr
      obtain ⟨i, hi, rfl⟩ := List.mem_map.1 hr
      obtain ⟨_, _, h3, h4, _⟩ := hq i (List.mem_range.1 hi)
      exact ⟨h3, h4⟩
end Go.Proofs.Qxb6603010a.Pr
