/-
  'Rows.FnLayoutAddScriptSaid': the frame after the kit's skeleton for a law over slices, turned by hand to a slice of structs; the walk by Qxb6602978aLayLaw and Qxb6602978aLayNil.
-/
import Derived.Test.Qxb6602978aLayNil
import Derived.WalkKit
import Derived.ProofKit
import Derived.OpenShut
import Derived.ShutString
import Derived.ChangeOld
import Derived.Below
import Derived.Deep.Slices
import Derived.Lib.SmallJoins
namespace Go.Proofs.Qxb6602978a.fnLayoutAddScript
open Go.ChangeShapes Go.WideShapes Go.ChangeAt Go.RowKit
open Go.ChangeMaps (open_string shut_string)
set_option linter.unusedVariables false

theorem own : ownKnob Try.prog.godebug = none := by kernel_rfl
theorem laidOut : laidOutB Try.prog = true := by kernel_rfl

/-- One element, from its reading. -/
theorem open_field {H : Type} {enc : TypeId × Value → H} {w : World} {base : Nat} {spare : Nat → Bool} {held : Bool} {n : Nat} {a : Addr} {cs' : List Value} {y : DataW H × List MemPlace}
    (h1 : w.cells? base a (Try.prog.cellsOf 35) = some cs') (h2 : DataW.trod enc Try.prog w base spare held n 35 cs' = some y) :
    ∃ f : Lay.FIn, w.cell? (a.add 0) = some (.string f.nm) ∧ w.cell? (a.add 1) = some (.string f.tp) ∧ w.cell? (a.add 2) = some (.int .i64 f.ln) ∧ w.cell? (a.add 3) = some (.int .i64 f.dc) ∧ f.nm.size ≤ maxLen ∧ f.tp.size ≤ maxLen := by
  have c35 : Try.prog.cellsOf 35 = 4 := by kernel_rfl
  have c9 : Try.prog.cellsOf 9 = 1 := by kernel_rfl
  have c3 : Try.prog.cellsOf 3 = 1 := by kernel_rfl
  rw [c35] at h1
  obtain ⟨_, hlen, hcell⟩ := World.cells?_some h1
  obtain ⟨xs, k, _, _, _, hxl, hf⟩ := DataW.trod_struct Try.underlying35 h2
  match xs, hxl, cs', hlen with
  | [y0, y1, y2, y3], _, [v0, v1, v2, v3], _ =>
    have g0 := hf 0 _ rfl
    have g1 := hf 1 _ rfl
    have g2 := hf 2 _ rfl
    have g3 := hf 3 _ rfl
    simp [c9, c3] at g0 g1 g2 g3
    obtain ⟨s0, e0, _, z0⟩ := DataW.trod_string Try.underlying9 g0
    obtain ⟨s1, e1, _, z1⟩ := DataW.trod_string Try.underlying9 g1
    obtain ⟨i2, e2, _, _⟩ := DataW.trod_int Try.underlying3 g2
    obtain ⟨i3, e3, _, _⟩ := DataW.trod_int Try.underlying3 g3
    simp at e0 e1 e2 e3
    subst e0 e1 e2 e3
    exact ⟨⟨s0, s1, i2, i3⟩, by simpa using hcell 0 (by omega), by simpa using hcell 1 (by omega), by simpa using hcell 2 (by omega), by simpa using hcell 3 (by omega), z0, z1⟩

theorem walk_all (a0 : Option Addr) (len0 cap0 : Nat) (w : World) (fs : List Lay.FIn) (hl : len0 ≤ maxLen) (hz : fs.length = len0) (hs : Lay.Szd fs)
    (h : (a0 = none ∧ len0 = 0 ∧ cap0 = 0) ∨ ∃ x, a0 = some x ∧ ∀ j v, (Lay.cellsF fs)[j]? = some v → w.cell? (x.add j) = some v) :
    Calls Try.prog 6 #[.slice a0 len0 cap0] w fun e w' => e = .returned (.bool true) ∧ Below w.heap.size w w' := by
  rcases h with ⟨rfl, rfl, rfl⟩ | ⟨x, rfl, hc⟩
  · exact Lay.law_nil w
  · exact Lay.law_some x len0 cap0 fs w hz hl hs hc

/-! ### THE ROW's STEP: WRITTEN OUT: LEAVE IT -/
set_option maxRecDepth 100000 in
theorem lifted (os : Os) (started : os.Started) (H : Type) (enc : TypeId × Value → H) :
    ReturnsInHanded {} Try.checked os 6 .any (Rows.fnLayoutAddScriptSpec.pre6 enc Try.prog Try.f6 Rows.fnLayoutAddScriptRow.domain false) (Rows.fnLayoutAddScriptSpec.post enc Try.prog Try.f6 false true false false) := by
  refine returnsInHanded_of_change (C := Try.checked) own started (by kernel_rfl) Try.func6
    (ChangeSpec.witness6 (enc := enc) (C := Try.checked) false ⟨#[], #[.slice none 0 0], []⟩ 8 (by kernel_rfl) (by kernel_rfl) (by kernel_rfl) (by kernel_rfl)) ?_
  intro W base args ds gs before hval0 hW hcnd _
  have hval : ∀ (j : Nat) t v, Try.f6.params[j]? = some t → args[j]? = some v → Value.okWide Try.prog W .any base t v := hval0
  have hW' := hW
  obtain ⟨p, q, hA0, hV, rfl, hfz, hnd⟩ := hW
  have hA : DataW.TrodAll enc Try.prog W 0 (fun _ => true) true Try.f6.params.toList args.toList ds p := hA0
  rw [Try.params6] at hA hval
  obtain ⟨v0, vs0, d0, ds0, p0, q0, hargs, rfl, rfl, h0, r0⟩ := trodAll_cons hA
  obtain ⟨rfl, rfl, rfl⟩ := trodAll_nil r0
  obtain rfl : args = #[v0] := by cases args; simp_all
  obtain ⟨rfl, rfl⟩ := trodVars_none hV
  obtain ⟨a0, len0, cap0, rfl⟩ := okWide_slice Try.underlying29 (hval 0 29 v0 rfl rfl)
  have k0 := h0
  have lt0 : ∀ x ∈ p0, x.block < W.heap.size := by obtain ⟨m, hm⟩ := k0; exact DataW.trod_lt m _ _ _ hm
  obtain ⟨fs, hl, hz, hs, hw⟩ : ∃ fs : List Lay.FIn, len0 ≤ maxLen ∧ fs.length = len0 ∧ Lay.Szd fs ∧ ((a0 = none ∧ len0 = 0 ∧ cap0 = 0) ∨ ∃ x, a0 = some x ∧ ∀ j v, (Lay.cellsF fs)[j]? = some v → W.cell? (x.add j) = some v) := by
    obtain ⟨fuel, hf⟩ := h0
    rcases Deep.open_slice Try.underlying29 hf with ⟨hcs, _⟩ | ⟨x, l, c, m, n, D, Pl, hcs, _, hl, hm, hmm, _, hx⟩
    · simp [Value.cells] at hcs
      obtain ⟨rfl, rfl, rfl⟩ := hcs
      exact ⟨[], Nat.zero_le _, rfl, (fun x hx => by cases hx), .inl ⟨rfl, rfl, rfl⟩⟩
    · simp [Value.cells] at hcs
      obtain ⟨rfl, rfl, rfl⟩ := hcs
      simp only [if_true] at hmm
      subst hmm
      have c35 : Try.prog.cellsOf 35 = 4 := by kernel_rfl
      have each : ∀ i, i < len0 → ∃ f : Lay.FIn, W.cell? (x.add (i * 4)) = some (.string f.nm) ∧ W.cell? (x.add (i * 4 + 1)) = some (.string f.tp) ∧ W.cell? (x.add (i * 4 + 2)) = some (.int .i64 f.ln) ∧ W.cell? (x.add (i * 4 + 3)) = some (.int .i64 f.dc) ∧ f.nm.size ≤ maxLen ∧ f.tp.size ≤ maxLen := by
        intro i hi
        obtain ⟨cs', h1, h2⟩ := hx i (by omega)
        obtain ⟨f, q0, q1, q2, q3, z⟩ := open_field h1 h2
        rw [c35, Deep.add_add] at q0 q1 q2 q3
        exact ⟨f, q0, q1, q2, q3, z⟩
      obtain ⟨q, hq⟩ := @Deep.choose_lt Lay.FIn ⟨Lay.fin0⟩ len0 _ each
      refine ⟨(List.range len0).map q, Nat.le_trans hl hm, by simp, ?_, .inr ⟨x, rfl, ?_⟩⟩
      · intro f hf
        obtain ⟨i, hi, rfl⟩ := List.mem_map.1 hf
        exact (hq i (List.mem_range.1 hi)).2.2.2.2
      · intro j v hj
        have hjl : j < len0 * 4 := by
          have := (List.getElem?_eq_some_iff.1 hj).1
          rw [Lay.cellsF_length] at this
          simpa using this
        have hi : j / 4 < len0 := by omega
        obtain ⟨b0, b1, b2, b3, _⟩ := hq (j / 4) hi
        obtain ⟨a0, a1, a2, a3⟩ := Lay.cellsF_at ((List.range len0).map q) (j / 4) (by simpa using hi)
        have eq : ((List.range len0).map q).getD (j / 4) Lay.fin0 = q (j / 4) := by simp [hi]
        rw [eq] at a0 a1 a2 a3
        rcases (show j = j / 4 * 4 ∨ j = j / 4 * 4 + 1 ∨ j = j / 4 * 4 + 2 ∨ j = j / 4 * 4 + 3 by omega) with e | e | e | e
        · rw [e] at hj ⊢; rw [a0] at hj; rw [b0]; exact hj
        · rw [e] at hj ⊢; rw [a1] at hj; rw [b1]; exact hj
        · rw [e] at hj ⊢; rw [a2] at hj; rw [b2]; exact hj
        · rw [e] at hj ⊢; rw [a3] at hj; rw [b3]; exact hj
  clear hA0 hval0
  refine (walk_all a0 len0 cap0 W fs hl hz hs hw).mono fun e W' ⟨he, bel⟩ => ?_
  subst he
  exact ⟨_, rfl, _, _, _, [], _, [], hW', trodAll_mk1 (shut_bool Try.underlying4 _), (trodAll_cons_mk (Below.trod laidOut (by kernel_rfl) (of_decide_eq_true (by kernel_rfl)) k0 bel lt0) trodAll_mk0), rfl, bel.frame _, fun h => by cases h⟩

theorem over : Rows.fnLayoutAddScriptRow.holds Try.pinned (OpenSpec.ofChange Rows.fnLayoutAddScriptSpec) :=
  OpenClaim.holds_of_wide 6 Try.f6 rfl rfl rfl rfl rfl rfl rfl ⟨rfl, rfl, rfl, rfl, rfl⟩ rfl rfl rfl rfl rfl (by kernel_rfl) Try.func6 (by kernel_rfl)
    (of_decide_eq_true (by kernel_rfl)) (by unfold Func.isWrapper; first | (rw [if_pos (by decide +kernel)]; kernel_rfl) | (rw [if_neg (by decide +kernel)]; exact ⟨rfl, rfl⟩))
    (fun os started H enc _ => lifted os started H enc)

/-- ████ THE STATEMENT ████ -/
theorem proved : Rows.FnLayoutAddScriptSaid := over
#print axioms proved
end Go.Proofs.Qxb6602978a.fnLayoutAddScript
