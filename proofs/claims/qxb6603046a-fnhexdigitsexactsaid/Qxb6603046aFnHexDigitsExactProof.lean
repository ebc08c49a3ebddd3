import Derived.Test.Qxb6603046aHexLaw
import Derived.WalkKit
import Derived.ProofKit
import Derived.OpenShut
import Derived.ShutString
import Derived.ChangeOld
import Derived.Below
namespace Go.Proofs.Qxb6603046a.Hx
open Go.RowKit

set_option maxHeartbeats 4000000 in
theorem exact_zero (a : Option Addr) (c : Nat) (w : World) (hr : Rd w a 0 []) :
    Calls Try.prog 3 #[.slice a 0 c] w fun e w' => e = .returned (.bool true) ∧ Below w.heap.size w w' := by
  have HR := hid hr
  clear hr
  go_enter Try.func3, Try.ntmps3
  go_wp2_with (first
    | (go_at_call 7; refine (zz7 _ 0 c _ (by unfold maxLen; omega)).mono ?_; rintro e w0 ⟨rfl, rfl⟩)
    | (go_at_call 8; refine (clone a 0 c [] _ (by omega) HR.out).mono ?_; rintro e w1 ⟨a', c', rfl, hg, hr1⟩; have HG := hid hg; have HR1 := hid hr1; clear hg hr1)
    | fail)
  go_loop [3] (fun i => i = .int .i64 0) (fun _ => 0)
  case atStart => exact rfl
  case round =>
    subst hrel
    go_wp2
    go_loop [5, 6, 7] (fun v p j => v = .int .u32 0 ∧ p = .int .u32 1 ∧ j = .int .i64 (-1)) (fun _ _ _ => 0)
    case atStart => exact ⟨rfl, rfl, rfl⟩
    case round =>
      obtain ⟨rfl, rfl, rfl⟩ := hrel
      go_wp2_with (first | (go_at_call 10; refine (zzHex _ 0 c' [] _ (by omega) HR1.out (by simp)).mono ?_; rintro e w3 ⟨rfl, rfl⟩; rw [show run [] = 0 from rfl, show IntKind.i32.wrap (val (List.take 0 [])) = 0 from rfl]) | fail)
      go_ret
      exact ⟨rfl, (Below.refl _ w).grown HG.out (Nat.le_refl _) (fun k hk => by cases hk)⟩

set_option maxHeartbeats 800000 in
theorem exact_out (a : Option Addr) (n c : Nat) (w : World) (hn : n ≤ maxLen) (h : 1048576 < n) :
    Calls Try.prog 3 #[.slice a n c] w fun e w' => e = .returned (.bool true) ∧ Below w.heap.size w w' := by
  have HN := hid hn
  clear hn
  have hd : decide (n ≤ 1048576) = false := decide_eq_false (by omega)
  go_enter Try.func3, Try.ntmps3
  go_wp2_with (first | (go_at_call 7; refine (zz7 _ n c _ HN.out).mono ?_; rintro e w0 ⟨rfl, rfl⟩) | fail)
  go_ret
  exact ⟨rfl, Below.refl _ _⟩
end Go.Proofs.Qxb6603046a.Hx

namespace Go.Proofs.Qxb6603046a.fnHexDigitsExact
open Go.ChangeShapes Go.WideShapes Go.ChangeAt Go.RowKit
open Go.ChangeMaps (open_string shut_string)
set_option linter.unusedVariables false

theorem own : ownKnob Try.prog.godebug = none := by kernel_rfl
theorem laidOut : laidOutB Try.prog = true := by kernel_rfl

/-- WHAT THE WALK IS TOLD OF A SLICE OF INTEGERS THAT CAME IN: it is nil; or it leads to a row of 'cap' cells, the numbers 'zs' (the first 'len' are its elements, the rest its spare room), each fitting its kind. -/
def IsRow (k : IntKind) (w : World) (a : Option Addr) (len cap : Nat) (zs : List Int) : Prop :=
  (a = none ∧ len = 0 ∧ cap = 0 ∧ zs = []) ∨
  ∃ x, a = some x ∧ len ≤ cap ∧ cap ≤ maxLen ∧ zs.length = cap ∧ (∀ i, i < zs.length → w.cell? (x.add i) = some (.int k (zs.getD i 0))) ∧ ∀ n ∈ zs, (Lit.int k n).wf = true

theorem rd_of {w : World} {a : Option Addr} {n c : Nat} {zs : List Int} (h : IsRow .u8 w a n c zs) : Hx.Rd w a n (zs.take n) ∧ ∀ y ∈ zs.take n, 0 ≤ y ∧ y < 256 := by
  rcases h with ⟨rfl, rfl, _, rfl⟩ | ⟨x, rfl, h1, h2, h3, h4, h5⟩
  · exact ⟨⟨rfl, fun _ => rfl, fun h => absurd h (Nat.lt_irrefl _)⟩, by simp⟩
  · refine ⟨⟨by simp; omega, fun h => by simp at h, fun hn => ?_⟩, fun y hy => ?_⟩
    · have hx : x.spot = none := by
        have := h4 0 (by omega)
        obtain ⟨b, off, sp⟩ := x
        cases sp with
        | none => rfl
        | some s =>
          simp only [Addr.add, World.cell?] at this
          split at this <;> simp at this
      obtain ⟨b, off, sp⟩ := x
      simp only at hx
      subst hx
      refine ⟨b, off, rfl, fun i hi => ?_⟩
      have := h4 i (by omega)
      have e : Addr.add ⟨b, off, none⟩ i = ⟨b, off + i, none⟩ := by
        unfold Addr.add
        split
        · rename_i h0
          rw [h0]; rfl
        · rfl
      rw [e] at this
      rw [this]
      simp [hi]
    · have := h5 y (List.mem_of_mem_take hy)
      simp [Lit.wf, IntKind.min, IntKind.max, IntKind.bits, IntKind.signed] at this
      omega

/-! ### STEP 1: THE WALK: the Go text returns true, AND WRITES NOTHING THAT WAS THERE: 'Below w.heap.size w w'' (Derived/Below.lean: '.refl', '.alloc', '.drew', '.setCell' at a new block, '.trans'). Open each 'IsRow' by 'rcases' AHEAD of 'go_enter'; part every test ahead of the walk. -/
theorem walk (a0 : Option Addr) (len0 cap0 : Nat) (z0 : List Int) (w : World) (w0 : IsRow .u8 w a0 len0 cap0 z0) :
    Calls Try.prog 3 #[.slice a0 len0 cap0] w fun e w' => e = .returned (.bool true) ∧ Below w.heap.size w w' := by
  have hl : len0 ≤ maxLen := by
    rcases w0 with ⟨_, rfl, _, _⟩ | ⟨_, _, h1, h2, _⟩
    · exact Nat.zero_le _
    · omega
  obtain ⟨hr, hb⟩ := rd_of w0
  by_cases hn : 1048576 < len0
  · exact Hx.exact_out a0 len0 cap0 w hl hn
  by_cases hz : len0 = 0
  · subst hz
    exact Hx.exact_zero a0 cap0 w (by simpa using hr)
  · exact Hx.exact_some a0 len0 cap0 (z0.take len0) w (by omega) (by omega) hr hb

/-! ### THE ROW's STEP: WRITTEN OUT: LEAVE IT -/
set_option maxRecDepth 100000 in
theorem lifted (os : Os) (started : os.Started) (H : Type) (enc : TypeId × Value → H) :
    ReturnsInHanded {} Try.checked os 3 .any (Rows.fnHexDigitsExactSpec.pre6 enc Try.prog Try.f3 Rows.fnHexDigitsExactRow.domain false) (Rows.fnHexDigitsExactSpec.post enc Try.prog Try.f3 false true false false) := by
  refine returnsInHanded_of_change (C := Try.checked) own started (by kernel_rfl) Try.func3
    (ChangeSpec.witness6 (enc := enc) (C := Try.checked) false ⟨#[], #[.slice none 0 0], []⟩ 8 (by kernel_rfl) (by kernel_rfl) (by kernel_rfl) (by kernel_rfl)) ?_
  intro W base args ds gs before hval0 hW hcnd _
  have hval : ∀ (j : Nat) t v, Try.f3.params[j]? = some t → args[j]? = some v → Value.okWide Try.prog W .any base t v := hval0
  have hW' := hW
  obtain ⟨p, q, hA0, hV, rfl, hfz, hnd⟩ := hW
  have hA : DataW.TrodAll enc Try.prog W 0 (fun _ => true) true Try.f3.params.toList args.toList ds p := hA0
  rw [Try.params3] at hA hval
  obtain ⟨v0, vs0, d0, ds0, p0, q0, hargs, rfl, rfl, h0, r0⟩ := trodAll_cons hA
  obtain ⟨rfl, rfl, rfl⟩ := trodAll_nil r0
  obtain rfl : args = #[v0] := by cases args; simp_all
  obtain ⟨rfl, rfl⟩ := trodVars_none hV
  obtain ⟨a0, len0, cap0, rfl⟩ := okWide_slice Try.underlying22 (hval 0 22 v0 rfl rfl)
  have k0 := h0
  have lt0 : ∀ x ∈ p0, x.block < W.heap.size := by obtain ⟨m, hm⟩ := k0; exact DataW.trod_lt m _ _ _ hm
  obtain ⟨z0, w0⟩ : ∃ zs, IsRow .u8 W a0 len0 cap0 zs := by
    obtain ⟨fuel, hf⟩ := h0
    rcases open_ints Try.underlying22 Try.underlying5 (by kernel_rfl) hf with ⟨hcs, _⟩ | ⟨x, l, c, zs, hcs, _, hl, hm, hz, _, hcell, hwz⟩
    · simp [Value.cells] at hcs
      obtain ⟨rfl, rfl, rfl⟩ := hcs
      exact ⟨[], .inl ⟨rfl, rfl, rfl, rfl⟩⟩
    · simp [Value.cells] at hcs
      obtain ⟨rfl, rfl, rfl⟩ := hcs
      exact ⟨zs, .inr ⟨_, rfl, hl, hm, by simpa using hz, hcell, hwz⟩⟩
  clear hA0 hval0
  refine (walk a0 len0 cap0 z0 W w0).mono fun e W' ⟨he, bel⟩ => ?_
  subst he
  exact ⟨_, rfl, _, _, _, [], _, [], hW', trodAll_mk1 (shut_bool Try.underlying4 _), (trodAll_cons_mk (Below.trod laidOut (by kernel_rfl) (of_decide_eq_true (by kernel_rfl)) k0 bel lt0) trodAll_mk0), rfl, bel.frame _, fun h => by cases h⟩

theorem over : Rows.fnHexDigitsExactRow.holds Try.pinned (OpenSpec.ofChange Rows.fnHexDigitsExactSpec) :=
  OpenClaim.holds_of_wide 3 Try.f3 rfl rfl rfl rfl rfl rfl rfl ⟨rfl, rfl, rfl, rfl, rfl⟩ rfl rfl rfl rfl rfl (by kernel_rfl) Try.func3 (by kernel_rfl)
    (of_decide_eq_true (by kernel_rfl)) (by unfold Func.isWrapper; first | (rw [if_pos (by decide +kernel)]; kernel_rfl) | (rw [if_neg (by decide +kernel)]; exact ⟨rfl, rfl⟩))
    (fun os started H enc _ => lifted os started H enc)

/-- ████ THE STATEMENT ████ -/
theorem proved : Rows.FnHexDigitsExactSaid := over
#print axioms proved
end Go.Proofs.Qxb6603046a.fnHexDigitsExact
