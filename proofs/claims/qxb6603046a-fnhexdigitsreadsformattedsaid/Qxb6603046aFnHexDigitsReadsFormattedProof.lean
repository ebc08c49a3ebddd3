import Derived.Test.Qxb6603046aFmtLaw
import Derived.WalkKit
import Derived.ProofKit
import Derived.OpenShut
import Derived.ShutString
import Derived.ChangeOld
import Derived.Below
namespace Go.Proofs.Qxb6603046a.Hx
open Go.RowKit

set_option maxHeartbeats 800000 in
theorem fmt_out (v : Int) (up : Bool) (z : Int) (a : Option Addr) (n c : Nat) (w : World) (hn : n ≤ maxLen) (h : 1048576 < n ∨ z < 0 ∨ 65536 < z) :
    Calls Try.prog 4 #[.int .u32 v, .bool up, .int .i64 z, .slice a n c] w fun e w' => e = .returned (.bool true) ∧ Below w.heap.size w w' := by
  have HN := hid hn
  clear hn
  by_cases h20 : n ≤ 1048576
  · have hd : decide (n ≤ 1048576) = true := decide_eq_true h20
    by_cases h1 : z < 0
    · clear h
      go_enter Try.func4, Try.ntmps4
      go_wp2_with (first | (go_at_call 11; refine (zz11 _ _ _ _ n c _ HN.out).mono ?_; rintro e w0 ⟨rfl, rfl⟩) | fail)
      go_ret
      exact ⟨rfl, Below.refl _ _⟩
    · have h2 : 65536 < z := by omega
      clear h
      go_enter Try.func4, Try.ntmps4
      go_wp2_with (first | (go_at_call 11; refine (zz11 _ _ _ _ n c _ HN.out).mono ?_; rintro e w0 ⟨rfl, rfl⟩) | fail)
      go_ret
      exact ⟨rfl, Below.refl _ _⟩
  · have hd : decide (n ≤ 1048576) = false := decide_eq_false h20
    clear h
    go_enter Try.func4, Try.ntmps4
    go_wp2_with (first | (go_at_call 11; refine (zz11 _ _ _ _ n c _ HN.out).mono ?_; rintro e w0 ⟨rfl, rfl⟩) | fail)
    go_ret
    exact ⟨rfl, Below.refl _ _⟩

set_option maxHeartbeats 800000 in
theorem fmt_hex (v : Int) (up : Bool) (Z : Nat) (a : Option Addr) (n c : Nat) (zs : List Int) (w : World) (hZ : Z ≤ 65536) (hn : n ≤ 1048576) (hr : Rd w a n zs) (hb : ∀ y ∈ zs, 0 ≤ y ∧ y < 256) (hp : 0 < n) (hh : 0 ≤ hx (zs.getD 0 0)) :
    Calls Try.prog 4 #[.int .u32 v, .bool up, .int .i64 (Z : Int), .slice a n c] w fun e w' => e = .returned (.bool true) ∧ Below w.heap.size w w' := by
  have HR := hid hr
  have HB := hid hb
  obtain ⟨b0, off0, rfl, hc0⟩ := hr.2.2 hp
  have c1 := hc0 0 hp
  obtain ⟨y, hy⟩ : ∃ y, y = zs.getD 0 0 := ⟨_, rfl⟩
  rw [← hy, Nat.add_zero] at c1
  rw [← hy] at hh
  obtain ⟨y0, y1⟩ : 0 ≤ y ∧ y < 256 := by
    rw [hy, List.getD_eq_getElem?_getD, List.getElem?_eq_getElem (by rw [HR.out.1]; exact hp)]
    exact HB.out _ (List.getElem_mem _)
  clear hr hb hc0 hy
  have hd : decide (n ≤ 1048576) = true := decide_eq_true hn
  have hpi : (0 : Int) < (n : Int) := by omega
  go_enter Try.func4, Try.ntmps4
  go_wp2_with (first
    | (go_at_call 11; refine (zz11 _ _ _ _ n c _ (by unfold maxLen; omega)).mono ?_; rintro e w0 ⟨rfl, rfl⟩)
    | (go_at_call 9; refine (hexValue y _ y0 y1).mono ?_; rintro e w0 ⟨rfl, rfl⟩)
    | fail)
  go_ret
  exact ⟨rfl, Below.refl _ _⟩
end Go.Proofs.Qxb6603046a.Hx

namespace Go.Proofs.Qxb6603046a.fnHexDigitsReadsFormatted
open Go.ChangeShapes Go.WideShapes Go.ChangeAt Go.RowKit
open Go.ChangeMaps (open_string shut_string)
set_option linter.unusedVariables false

theorem own : ownKnob Try.prog.godebug = none := by kernel_rfl
theorem laidOut : laidOutB Try.prog = true := by kernel_rfl

/-- WHAT THE WALK IS TOLD OF A SLICE OF INTEGERS THAT CAME IN: it is nil; or it leads to a row of 'cap' cells, the numbers 'zs' (the first 'len' are its elements, the rest its spare room), each fitting its kind. -/
def IsRow (k : IntKind) (w : World) (a : Option Addr) (len cap : Nat) (zs : List Int) : Prop :=
  (a = none ∧ len = 0 ∧ cap = 0 ∧ zs = []) ∨
  ∃ x, a = some x ∧ len ≤ cap ∧ cap ≤ maxLen ∧ zs.length = cap ∧ (∀ i, i < zs.length → w.cell? (x.add i) = some (.int k (zs.getD i 0))) ∧ ∀ n ∈ zs, (Lit.int k n).wf = true

theorem rd_of {w : World} {a : Option Addr} {n c : Nat} {zs : List Int} (h : IsRow .u8 w a n c zs) : Hx.Rd w a n (zs.take n) ∧ ∀ y ∈ zs.take n, 0 ≤ y ∧ y < 256 := by
  rcases h with ⟨rfl, rfl, _, rfl⟩ | ⟨x, rfl, h1, h2, h3, h4, h5⟩
  · exact ⟨⟨rfl, fun _ => rfl, fun h => absurd h (Nat.lt_irrefl _)⟩, by simp⟩
  · refine ⟨⟨by simp; omega, fun h => by simp at h, fun hn => ?_⟩, fun y hy => ?_⟩
    · have hx : x.spot = none := by
        have := h4 0 (by omega)
        obtain ⟨b, off, sp⟩ := x
        cases sp with
        | none => rfl
        | some s =>
          simp only [Addr.add, World.cell?] at this
          split at this <;> simp at this
      obtain ⟨b, off, sp⟩ := x
      simp only at hx
      subst hx
      refine ⟨b, off, rfl, fun i hi => ?_⟩
      have := h4 i (by omega)
      have e : Addr.add ⟨b, off, none⟩ i = ⟨b, off + i, none⟩ := by
        unfold Addr.add
        split
        · rename_i h0
          rw [h0]; rfl
        · rfl
      rw [e] at this
      rw [this]
      simp [hi]
    · have := h5 y (List.mem_of_mem_take hy)
      simp [Lit.wf, IntKind.min, IntKind.max, IntKind.bits, IntKind.signed] at this
      omega

/-! ### STEP 1: THE WALK: the Go text returns true, AND WRITES NOTHING THAT WAS THERE: 'Below w.heap.size w w'' (Derived/Below.lean: '.refl', '.alloc', '.drew', '.setCell' at a new block, '.trans'). Open each 'IsRow' by 'rcases' AHEAD of 'go_enter'; part every test ahead of the walk. -/
theorem walk (a0 : Int) (a1 : Bool) (a2 : Int) (a3 : Option Addr) (len3 cap3 : Nat) (z3 : List Int) (w : World) (w0 : (Lit.int .u32 a0).wf = true) (w2 : (Lit.int .i64 a2).wf = true) (w3 : IsRow .u8 w a3 len3 cap3 z3) :
    Calls Try.prog 4 #[.int .u32 a0, .bool a1, .int .i64 a2, .slice a3 len3 cap3] w fun e w' => e = .returned (.bool true) ∧ Below w.heap.size w w' := by
  have hl : len3 ≤ maxLen := by
    rcases w3 with ⟨_, rfl, _, _⟩ | ⟨_, _, h1, h2, _⟩
    · exact Nat.zero_le _
    · omega
  obtain ⟨hr, hb⟩ := rd_of w3
  have hv : 0 ≤ a0 ∧ a0 < 4294967296 := by
    simp [Lit.wf, IntKind.min, IntKind.max, IntKind.bits, IntKind.signed] at w0
    omega
  by_cases hc : 1048576 < len3 ∨ a2 < 0 ∨ 65536 < a2
  · exact Hx.fmt_out a0 a1 a2 a3 len3 cap3 w hl hc
  obtain ⟨Z, rfl⟩ : ∃ Z : Nat, a2 = (Z : Int) := ⟨a2.toNat, by omega⟩
  by_cases hp : 0 < len3
  · by_cases hh : 0 ≤ Hx.hx ((z3.take len3).getD 0 0)
    · exact Hx.fmt_hex a0 a1 Z a3 len3 cap3 (z3.take len3) w (by omega) (by omega) hr hb hp hh
    · exact Hx.fmt_some a0 a1 Z a3 len3 cap3 (z3.take len3) w hv.1 hv.2 (by omega) (by omega) hr hb hp (by omega)
  · exact Hx.fmt_zero a0 a1 Z a3 len3 cap3 (z3.take len3) w hv.1 hv.2 (by omega) (by omega) hr hb hp

/-! ### THE ROW's STEP: WRITTEN OUT: LEAVE IT -/
set_option maxRecDepth 100000 in
theorem lifted (os : Os) (started : os.Started) (H : Type) (enc : TypeId × Value → H) :
    ReturnsInHanded {} Try.checked os 4 .any (Rows.fnHexDigitsReadsFormattedSpec.pre6 enc Try.prog Try.f4 Rows.fnHexDigitsReadsFormattedRow.domain false) (Rows.fnHexDigitsReadsFormattedSpec.post enc Try.prog Try.f4 false true false false) := by
  refine returnsInHanded_of_change (C := Try.checked) own started (by kernel_rfl) Try.func4
    (ChangeSpec.witness6 (enc := enc) (C := Try.checked) false ⟨#[], #[.int .u32 0, .bool false, .int .i64 0, .slice none 0 0], []⟩ 8 (by kernel_rfl) (by kernel_rfl) (by kernel_rfl) (by kernel_rfl)) ?_
  intro W base args ds gs before hval0 hW hcnd _
  have hval : ∀ (j : Nat) t v, Try.f4.params[j]? = some t → args[j]? = some v → Value.okWide Try.prog W .any base t v := hval0
  have hW' := hW
  obtain ⟨p, q, hA0, hV, rfl, hfz, hnd⟩ := hW
  have hA : DataW.TrodAll enc Try.prog W 0 (fun _ => true) true Try.f4.params.toList args.toList ds p := hA0
  rw [Try.params4] at hA hval
  obtain ⟨v0, vs0, d0, ds0, p0, q0, hargs, rfl, rfl, h0, r0⟩ := trodAll_cons hA
  obtain ⟨v1, vs1, d1, ds1, p1, q1, rfl, rfl, rfl, h1, r1⟩ := trodAll_cons r0
  obtain ⟨v2, vs2, d2, ds2, p2, q2, rfl, rfl, rfl, h2, r2⟩ := trodAll_cons r1
  obtain ⟨v3, vs3, d3, ds3, p3, q3, rfl, rfl, rfl, h3, r3⟩ := trodAll_cons r2
  obtain ⟨rfl, rfl, rfl⟩ := trodAll_nil r3
  obtain rfl : args = #[v0, v1, v2, v3] := by cases args; simp_all
  obtain ⟨rfl, rfl⟩ := trodVars_none hV
  obtain ⟨a0, rfl, rfl, rfl, w0⟩ := open_int Try.underlying26 (hval 0 26 v0 rfl rfl) h0
  obtain ⟨a1, rfl, rfl, rfl⟩ := open_bool Try.underlying4 (hval 1 4 v1 rfl rfl) h1
  obtain ⟨a2, rfl, rfl, rfl, w2⟩ := open_int Try.underlying3 (hval 2 3 v2 rfl rfl) h2
  obtain ⟨a3, len3, cap3, rfl⟩ := okWide_slice Try.underlying22 (hval 3 22 v3 rfl rfl)
  have k3 := h3
  have lt3 : ∀ x ∈ p3, x.block < W.heap.size := by obtain ⟨m, hm⟩ := k3; exact DataW.trod_lt m _ _ _ hm
  obtain ⟨z3, w3⟩ : ∃ zs, IsRow .u8 W a3 len3 cap3 zs := by
    obtain ⟨fuel, hf⟩ := h3
    rcases open_ints Try.underlying22 Try.underlying5 (by kernel_rfl) hf with ⟨hcs, _⟩ | ⟨x, l, c, zs, hcs, _, hl, hm, hz, _, hcell, hwz⟩
    · simp [Value.cells] at hcs
      obtain ⟨rfl, rfl, rfl⟩ := hcs
      exact ⟨[], .inl ⟨rfl, rfl, rfl, rfl⟩⟩
    · simp [Value.cells] at hcs
      obtain ⟨rfl, rfl, rfl⟩ := hcs
      exact ⟨zs, .inr ⟨_, rfl, hl, hm, by simpa using hz, hcell, hwz⟩⟩
  clear hA0 hval0
  refine (walk a0 a1 a2 a3 len3 cap3 z3 W w0 w2 w3).mono fun e W' ⟨he, bel⟩ => ?_
  subst he
  exact ⟨_, rfl, _, _, _, [], _, [], hW', trodAll_mk1 (shut_bool Try.underlying4 _), (trodAll_cons_mk (shut_int Try.underlying26 w0) (trodAll_cons_mk (shut_bool Try.underlying4 _) (trodAll_cons_mk (shut_int Try.underlying3 w2) (trodAll_cons_mk (Below.trod laidOut (by kernel_rfl) (of_decide_eq_true (by kernel_rfl)) k3 bel lt3) trodAll_mk0)))), rfl, bel.frame _, fun h => by cases h⟩

theorem over : Rows.fnHexDigitsReadsFormattedRow.holds Try.pinned (OpenSpec.ofChange Rows.fnHexDigitsReadsFormattedSpec) :=
  OpenClaim.holds_of_wide 4 Try.f4 rfl rfl rfl rfl rfl rfl rfl ⟨rfl, rfl, rfl, rfl, rfl⟩ rfl rfl rfl rfl rfl (by kernel_rfl) Try.func4 (by kernel_rfl)
    (of_decide_eq_true (by kernel_rfl)) (by unfold Func.isWrapper; first | (rw [if_pos (by decide +kernel)]; kernel_rfl) | (rw [if_neg (by decide +kernel)]; exact ⟨rfl, rfl⟩))
    (fun os started H enc _ => lifted os started H enc)

/-- ████ THE STATEMENT ████ -/
theorem proved : Rows.FnHexDigitsReadsFormattedSaid := over
#print axioms proved
end Go.Proofs.Qxb6603046a.fnHexDigitsReadsFormatted
