import Derived.Test.Qxb6603009aShape
namespace Go.Proofs.Qxb6603009a.Rfc
open Go.RowKit

theorem zz (v : ByteArray) (w : World) (hs : v.size ≤ maxLen) :
    Calls Try.prog 4 #[.string v] w fun e w' => e = .returned (.bool (decide (v.size ≤ 1048576))) ∧ w = w' := by
  unfold maxLen at hs
  by_cases h : v.size ≤ 1048576
  · go_enter Try.func4, Try.ntmps4
    go_wp2
    go_ret
    exact ⟨ret_bool (by simpa using h), rfl⟩
  · go_enter Try.func4, Try.ntmps4
    go_wp2
    go_ret
    exact ⟨ret_bool (by simpa using h), rfl⟩

theorem zzKeeps (v : ByteArray) (s : Bool) (w : World) (hv : v.size ≤ 1048576) (h : Good v s) :
    Calls Try.prog 6 #[.string v] w fun e w' => e = .returned (.bool s) ∧ w = w' := by
  have H := keeps v s w hv h
  clear h
  go_enter Try.func6, Try.ntmps6
  go_wp2_with (go_at_call 9; refine H.mono ?_; rintro e w' ⟨rfl, rfl⟩)
  go_ret
  exact ⟨rfl, rfl⟩

theorem grown_drewN (w : World) (d : Nat) : Grown w (w.drewN d) := Grown.refl w

theorem law (v : ByteArray) (w : World) (hs : v.size ≤ maxLen) :
    Calls Try.prog 3 #[.string v] w fun e w' => e = .returned (.bool true) ∧ Grown w w' := by
  go_enter Try.func3, Try.ntmps3
  go_wp2_with fail
  refine (zz v w hs).mono ?_
  rintro e w' ⟨rfl, rfl⟩
  by_cases h : v.size ≤ 1048576
  · have hd : decide (v.size ≤ 1048576) = true := decide_eq_true h
    go_wp2_with fail
    refine (shape v w h).mono ?_
    rintro e w' ⟨⟨p, s, rfl, hg⟩, d, rfl⟩
    cases p
    · clear hg
      go_wp2
      go_ret
      exact ⟨rfl, grown_drewN _ _⟩
    · have HG := hid (hg rfl)
      clear hg
      go_wp2_with fail
      refine (zzKeeps v s _ h HG.out).mono ?_
      rintro e w' ⟨rfl, rfl⟩
      cases s
      all_goals
        go_wp2
        go_ret
        exact ⟨rfl, grown_drewN _ _⟩
  · have hd : decide (v.size ≤ 1048576) = false := decide_eq_false h
    go_wp2
    go_ret
    exact ⟨rfl, Grown.refl _⟩
end Go.Proofs.Qxb6603009a.Rfc
