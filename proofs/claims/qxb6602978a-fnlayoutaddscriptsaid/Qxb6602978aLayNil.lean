import Derived.Test.Qxb6602978aLayLaw
namespace Go.Proofs.Qxb6602978a.Lay
open Go.RowKit Go.Maps Mp

set_option maxRecDepth 100000 in
set_option maxHeartbeats 4000000 in
theorem law_nil (w : World) : Calls Try.prog 6 #[.slice none 0 0] w fun e w' => e = .returned (.bool true) ∧ Below w.heap.size w w' := by
  obtain ⟨i0, hi, hz0, hz1, hz2⟩ := info_parts Try.info3
  go_enter Try.func6, Try.ntmps6
  go_wp2_with fail
  refine (zz15_nil none 0 w).mono ?_
  rintro e w0 ⟨⟨r, rfl⟩, rfl⟩
  cases r
  · go_wp2
    go_ret
    exact ⟨rfl, Below.refl _ _⟩
  go_wp2_with fail
  refine (fb_nil none 0 w).mono ?_
  rintro e w0 ⟨⟨t, rfl⟩, d, rfl⟩
  by_cases ht : 1048576 < t
  · go_wp2
    go_ret
    exact ⟨rfl, below_drewN (Below.refl _ _) _⟩
  go_wp2_with fail
  refine (clone_nil (w.drewN d)).mono ?_
  rintro e w1 ⟨rfl, hw1⟩
  have HB1 : Hid (Below w.heap.size w w1) := by rw [← hw1]; exact below_drewN (Below.refl _ _) d
  clear hw1 ht
  go_wp2_with (at_make; refine wpList_make_full _ rfl _ _ 33 rfl w1.heap.size 3 i0 _ 1 Try.underlying33 hi hz0 hz1 .i64 .i64 _ _ 0 rfl rfl rfl rfl (by omega) (by unfold maxLen; omega) (Nat.le_refl _) ?_; intro w2 hown hgr; obtain ⟨_, hb2⟩ := made_ints hown hgr; clear hown hgr)
  have HB2 : Hid (Below w.heap.size w w2) := HB1.out.trans (hb2.mono HB1.out.size)
  clear HB1 hb2
  refine wp_loop_rounds 1 ?_
  rw [rounds_succ]
  go_wp2_with (at_make; refine wpList_make_full _ rfl _ _ 33 rfl w2.heap.size 3 i0 _ 1 Try.underlying33 hi hz0 hz1 .i64 .i64 _ _ 0 rfl rfl rfl rfl (by omega) (by unfold maxLen; omega) (Nat.le_refl _) ?_; intro w3 hown hgr; obtain ⟨_, hb3⟩ := made_ints hown hgr; clear hown hgr)
  have HB3 : Hid (Below w.heap.size w w3) := HB2.out.trans (hb3.mono HB2.out.size)
  clear HB2 hb3
  refine wp_loop_rounds 1 ?_
  rw [rounds_succ]
  go_wp2_with fail
  refine (new_any w3).mono ?_
  rintro e w4 ⟨rfl, hb4, hlay⟩
  have HB4 : Hid (Below w.heap.size w w4) := HB3.out.trans (hb4.mono HB3.out.size)
  have LY := hid hlay
  clear HB3 hb4 hlay
  go_wp2
  refine wp_loop_rounds 1 ?_
  rw [rounds_succ]
  go_wp2_with (first
    | (go_at_call 20; refine (zzSize _ _ [] 0 (.slice none 0 0) LY.out).mono ?_; rintro e w5 ⟨rfl, hw5⟩; subst hw5)
    | (go_at_call 21; refine (zzCount _ _ [] 0 (.slice none 0 0) LY.out).mono ?_; rintro e w5 ⟨rfl, hw5⟩; subst hw5)
    | (go_at_call 22; refine (zzNames _ _ [] 0 (.slice none 0 0) LY.out).mono ?_; rintro e w5 ⟨rfl, hw5⟩; subst hw5))
  refine wp_loop_rounds 1 ?_
  rw [rounds_succ]
  go_wp2
  go_ret
  exact ⟨rfl, HB4.out⟩
end Go.Proofs.Qxb6602978a.Lay
