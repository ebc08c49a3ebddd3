import Derived.Test.Qxb6603010aStamp
import Derived.OpenShut
import Derived.ShutString
import Derived.ChangeOld
import Derived.Below
import Derived.WalkKit
import Derived.ProofKit
namespace Go.Proofs.Qxb6603010a.St
open Go.RowKit Go.Maps Mp
open Pr (hid ret_bool lt_of al1 run_mm)

set_option maxRecDepth 100000 in
set_option maxHeartbeats 8000000 in
theorem law0 (C : Nat) (a : Option Addr) (c : Nat) (w : World) (hC : C ≤ 65536) :
    Calls Try.prog 5 #[.int .i64 (C : Int), .slice a 0 c] w fun e w' => e = .returned (.bool true) ∧ Below w.heap.size w w' := by
  have hmm := fun W => run_mm (P := Try.prog) Try.underlying34 .i64 0 W
  obtain ⟨i0, hi, hz0, hz1, hz2⟩ := info_parts Try.info35
  go_enter Try.func5, Try.ntmps5
  go_wp2_with (first
    | (go_at_call 10; refine (zz10 _ _ 0 c _ (by unfold maxLen; omega)).mono ?_; rintro e w0 ⟨rfl, rfl⟩)
    | (at_make; refine wpList_make_own _ rfl _ (.tmp 29) 32 rfl 0 35 i0 _ 1 Try.underlying32 hi hz0 hz1 .i64 .i64 _ C rfl rfl rfl (by rw [hz2]; omega) (by unfold maxLen; omega) (Nat.zero_le _) ?_; intro w1 hown hgr; have HF1 := hid hown; have HG1 := hid hgr; clear hown hgr)
    | (at_make; refine wpList_make_own _ rfl _ (.tmp 35) 32 rfl 0 35 i0 _ 1 Try.underlying32 hi hz0 hz1 .i64 .i64 _ 0 rfl rfl rfl (by rw [hz2]; omega) (by unfold maxLen; omega) (Nat.zero_le _) ?_; intro w2 hown hgr; have HF2 := hid hown; have HG2 := hid hgr; clear hown hgr)
    | fail)
  have HS0 := hid (sta_start HF1.out HG1.out HF2.out HG2.out)
  clear HF1 HF2 HG1 HG2
  go_loop [9] (fun i => i = .int .i64 0) (fun _ => 0)
  case atStart => exact rfl
  case round =>
    subst hrel
    go_wp2
    go_ret
    exact ⟨rfl, HS0.out.b⟩

set_option maxHeartbeats 800000 in
theorem out0 (z : Int) (a : Option Addr) (n c : Nat) (w : World) (hn : n ≤ maxLen) (h : (z < 0 ∨ 65536 < z) ∨ 4096 < n) :
    Calls Try.prog 5 #[.int .i64 z, .slice a n c] w fun e w' => e = .returned (.bool true) ∧ Below w.heap.size w w' := by
  have HN := hid hn
  clear hn
  by_cases h20 : n ≤ 1048576
  · have hd : decide (n ≤ 1048576) = true := decide_eq_true h20
    by_cases h1 : z < 0
    · clear h
      go_enter Try.func5, Try.ntmps5
      go_wp2_with (first | (go_at_call 10; refine (zz10 _ _ n c _ HN.out).mono ?_; rintro e w0 ⟨rfl, rfl⟩) | fail)
      go_ret
      exact ⟨rfl, Below.refl _ _⟩
    · by_cases h2 : 65536 < z
      · clear h
        go_enter Try.func5, Try.ntmps5
        go_wp2_with (first | (go_at_call 10; refine (zz10 _ _ n c _ HN.out).mono ?_; rintro e w0 ⟨rfl, rfl⟩) | fail)
        go_ret
        exact ⟨rfl, Below.refl _ _⟩
      · have h3 : 4096 < n := by omega
        clear h
        go_enter Try.func5, Try.ntmps5
        go_wp2_with (first | (go_at_call 10; refine (zz10 _ _ n c _ HN.out).mono ?_; rintro e w0 ⟨rfl, rfl⟩) | fail)
        go_ret
        exact ⟨rfl, Below.refl _ _⟩
  · have hd : decide (n ≤ 1048576) = false := decide_eq_false h20
    clear h
    go_enter Try.func5, Try.ntmps5
    go_wp2_with (first | (go_at_call 10; refine (zz10 _ _ n c _ HN.out).mono ?_; rintro e w0 ⟨rfl, rfl⟩) | fail)
    go_ret
    exact ⟨rfl, Below.refl _ _⟩
end Go.Proofs.Qxb6603010a.St

namespace Go.Proofs.Qxb6603010a.fnPeerStampSetAddScript
open Go.ChangeShapes Go.WideShapes Go.ChangeAt Go.RowKit
open Go.ChangeMaps (open_string shut_string)
set_option linter.unusedVariables false

theorem own : ownKnob Try.prog.godebug = none := by kernel_rfl
theorem laidOut : laidOutB Try.prog = true := by kernel_rfl

/-- WHAT THE WALK IS TOLD OF A SLICE OF INTEGERS THAT CAME IN: it is nil; or it leads to a row of 'cap' cells, the numbers 'zs' (the first 'len' are its elements, the rest its spare room), each fitting its kind. -/
def IsRow (k : IntKind) (w : World) (a : Option Addr) (len cap : Nat) (zs : List Int) : Prop :=
  (a = none ∧ len = 0 ∧ cap = 0 ∧ zs = []) ∨
  ∃ x, a = some x ∧ len ≤ cap ∧ cap ≤ maxLen ∧ zs.length = cap ∧ (∀ i, i < zs.length → w.cell? (x.add i) = some (.int k (zs.getD i 0))) ∧ ∀ n ∈ zs, (Lit.int k n).wf = true

/-! ### STEP 1: THE WALK: the Go text returns true, AND WRITES NOTHING THAT WAS THERE: 'Below w.heap.size w w'' (Derived/Below.lean: '.refl', '.alloc', '.drew', '.setCell' at a new block, '.trans'). Open each 'IsRow' by 'rcases' AHEAD of 'go_enter'; part every test ahead of the walk. -/
theorem walk (a0 : Int) (a1 : Option Addr) (len1 cap1 : Nat) (z1 : List Int) (w : World) (w0 : (Lit.int .i64 a0).wf = true) (w1 : IsRow .u64 w a1 len1 cap1 z1) :
    Calls Try.prog 5 #[.int .i64 a0, .slice a1 len1 cap1] w fun e w' => e = .returned (.bool true) ∧ Below w.heap.size w w' := by
  by_cases hc : (a0 < 0 ∨ 65536 < a0) ∨ 4096 < len1
  · refine St.out0 a0 a1 len1 cap1 w ?_ hc
    rcases w1 with ⟨_, rfl, _, _⟩ | ⟨_, _, h1, h2, _⟩
    · exact Nat.zero_le _
    · omega
  obtain ⟨C, rfl⟩ : ∃ C : Nat, a0 = (C : Int) := ⟨a0.toNat, by omega⟩
  have hC : C ≤ 65536 := by omega
  by_cases hz : len1 = 0
  · subst hz
    exact St.law0 C a1 cap1 w hC
  rcases w1 with ⟨_, h, _, _⟩ | ⟨x, rfl, h1, h2, h3, h4, h5⟩
  · exact absurd h hz
  have hx : x.spot = none := by
    have := h4 0 (by omega)
    obtain ⟨b, off, sp⟩ := x
    cases sp with
    | none => rfl
    | some s =>
      simp only [Addr.add, World.cell?] at this
      split at this <;> simp at this
  obtain ⟨b, off, sp⟩ := x
  simp only at hx
  subst hx
  refine St.law C len1 cap1 b off (z1.take len1) w hC (by omega) (by simp; omega) (fun y hy => h5 y (List.mem_of_mem_take hy)) (fun i hi => ?_)
  have := h4 i (by omega)
  have e : Addr.add ⟨b, off, none⟩ i = ⟨b, off + i, none⟩ := by
    unfold Addr.add
    split
    · rename_i h0
      rw [h0]; rfl
    · rfl
  rw [e] at this
  rw [this]
  simp [hi]

/-! ### THE ROW's STEP: WRITTEN OUT: LEAVE IT -/
set_option maxRecDepth 100000 in
theorem lifted (os : Os) (started : os.Started) (H : Type) (enc : TypeId × Value → H) :
    ReturnsInHanded {} Try.checked os 5 .any (Rows.fnPeerStampSetAddScriptSpec.pre6 enc Try.prog Try.f5 Rows.fnPeerStampSetAddScriptRow.domain false) (Rows.fnPeerStampSetAddScriptSpec.post enc Try.prog Try.f5 false true false false) := by
  refine returnsInHanded_of_change (C := Try.checked) own started (by kernel_rfl) Try.func5
    (ChangeSpec.witness6 (enc := enc) (C := Try.checked) false ⟨#[], #[.int .i64 0, .slice none 0 0], []⟩ 8 (by kernel_rfl) (by kernel_rfl) (by kernel_rfl) (by kernel_rfl)) ?_
  intro W base args ds gs before hval0 hW hcnd _
  have hval : ∀ (j : Nat) t v, Try.f5.params[j]? = some t → args[j]? = some v → Value.okWide Try.prog W .any base t v := hval0
  have hW' := hW
  obtain ⟨p, q, hA0, hV, rfl, hfz, hnd⟩ := hW
  have hA : DataW.TrodAll enc Try.prog W 0 (fun _ => true) true Try.f5.params.toList args.toList ds p := hA0
  rw [Try.params5] at hA hval
  obtain ⟨v0, vs0, d0, ds0, p0, q0, hargs, rfl, rfl, h0, r0⟩ := trodAll_cons hA
  obtain ⟨v1, vs1, d1, ds1, p1, q1, rfl, rfl, rfl, h1, r1⟩ := trodAll_cons r0
  obtain ⟨rfl, rfl, rfl⟩ := trodAll_nil r1
  obtain rfl : args = #[v0, v1] := by cases args; simp_all
  obtain ⟨rfl, rfl⟩ := trodVars_none hV
  obtain ⟨a0, rfl, rfl, rfl, w0⟩ := open_int Try.underlying3 (hval 0 3 v0 rfl rfl) h0
  obtain ⟨a1, len1, cap1, rfl⟩ := okWide_slice Try.underlying32 (hval 1 32 v1 rfl rfl)
  have k1 := h1
  have lt1 : ∀ x ∈ p1, x.block < W.heap.size := by obtain ⟨m, hm⟩ := k1; exact DataW.trod_lt m _ _ _ hm
  obtain ⟨z1, w1⟩ : ∃ zs, IsRow .u64 W a1 len1 cap1 zs := by
    obtain ⟨fuel, hf⟩ := h1
    rcases open_ints Try.underlying32 Try.underlying35 (by kernel_rfl) hf with ⟨hcs, _⟩ | ⟨x, l, c, zs, hcs, _, hl, hm, hz, _, hcell, hwz⟩
    · simp [Value.cells] at hcs
      obtain ⟨rfl, rfl, rfl⟩ := hcs
      exact ⟨[], .inl ⟨rfl, rfl, rfl, rfl⟩⟩
    · simp [Value.cells] at hcs
      obtain ⟨rfl, rfl, rfl⟩ := hcs
      exact ⟨zs, .inr ⟨_, rfl, hl, hm, by simpa using hz, hcell, hwz⟩⟩
  clear hA0 hval0
  refine (walk a0 a1 len1 cap1 z1 W w0 w1).mono fun e W' ⟨he, bel⟩ => ?_
  subst he
  exact ⟨_, rfl, _, _, _, [], _, [], hW', trodAll_mk1 (shut_bool Try.underlying4 _), (trodAll_cons_mk (shut_int Try.underlying3 w0) (trodAll_cons_mk (Below.trod laidOut (by kernel_rfl) (of_decide_eq_true (by kernel_rfl)) k1 bel lt1) trodAll_mk0)), rfl, bel.frame _, fun h => by cases h⟩

theorem over : Rows.fnPeerStampSetAddScriptRow.holds Try.pinned (OpenSpec.ofChange Rows.fnPeerStampSetAddScriptSpec) :=
  OpenClaim.holds_of_wide 5 Try.f5 rfl rfl rfl rfl rfl rfl rfl ⟨rfl, rfl, rfl, rfl, rfl⟩ rfl rfl rfl rfl rfl (by kernel_rfl) Try.func5 (by kernel_rfl)
    (of_decide_eq_true (by kernel_rfl)) (by unfold Func.isWrapper; first | (rw [if_pos (by decide +kernel)]; kernel_rfl) | (rw [if_neg (by decide +kernel)]; exact ⟨rfl, rfl⟩))
    (fun os started H enc _ => lifted os started H enc)

/-- ████ THE STATEMENT ████ -/
theorem proved : Rows.FnPeerStampSetAddScriptSaid := over
#print axioms proved
end Go.Proofs.Qxb6603010a.fnPeerStampSetAddScript
