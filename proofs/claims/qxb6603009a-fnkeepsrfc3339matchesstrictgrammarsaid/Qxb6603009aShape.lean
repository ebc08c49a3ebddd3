import Derived.Test.Qxb6603009aBase
namespace Go.Proofs.Qxb6603009a.Rfc
open Go.RowKit

def Out (v : ByteArray) (w : World) (e : Ending) (w' : World) : Prop := (∃ p s, e = .returned (.tuple #[.bool p, .bool s]) ∧ (p = true → Good v s)) ∧ ∃ d, w' = w.drewN d
theorem out_no (v : ByteArray) (w : World) (s : Bool) (d : Nat) : Out v w (.returned (.tuple #[.bool false, .bool s])) (w.drewN d) := ⟨⟨false, s, rfl, fun h => by cases h⟩, d, rfl⟩
theorem out_no0 (v : ByteArray) (w : World) (s : Bool) : Out v w (.returned (.tuple #[.bool false, .bool s])) w := ⟨⟨false, s, rfl, fun h => by cases h⟩, 0, rfl⟩

def RunOut (v : ByteArray) (a c : Nat) (e : Ending) : Prop := ∃ r, e = .returned (.bool r) ∧ (r = true → a + c ≤ v.size ∧ run v a c = true)

theorem run2 {v : ByteArray} {a : Nat} (h : run v a 2 = true) : dig (bt v a) = true ∧ dig (bt v (a + 1)) = true := by
  have : run v a 2 = (dig (bt v a) && dig (bt v (a + 1))) := by unfold run; simp [List.range_succ]
  rw [this] at h
  simpa using h
theorem dig_bd {x : Int} (h : dig x = true) : 48 ≤ x ∧ x ≤ 57 := by simpa [dig] using h

theorem digitRun' (v : ByteArray) (x y : Int) (a c : Nat) (w : World) (hv : v.size ≤ 1048576) (ha : a ≤ 1048600) (hc : c ≤ 4) (hx : x = a) (hy : y = c) :
    Calls Try.prog 7 #[.string v, .int .i64 x, .int .i64 y] w fun e w' => RunOut v a c e ∧ w = w' :=
  (digitRun v x y a c w hv ha hc hx hy).mono fun _ _ ⟨he, hw⟩ => ⟨⟨_, he, fun h => by simpa using h⟩, hw⟩

set_option maxRecDepth 100000 in
set_option maxHeartbeats 12000000 in
theorem shape (v : ByteArray) (w : World) (hv : v.size ≤ 1048576) : Calls Try.prog 5 #[.string v] w fun e w' => Out v w e w' := by
  have hb := bt_eq v
  by_cases h11 : v.size < 11
  · go_enter Try.func5, Try.ntmps5
    go_wp2
    go_ret2
    exact out_no0 _ _ _
  have hs11 : (11 : Int) ≤ (v.size : Int) := by omega
  go_enter Try.func5, Try.ntmps5
  go_wp2_with fail
  refine (digitRun' v 0 4 0 4 _ hv (by omega) (by omega) rfl rfl).mono ?_
  rintro e w' ⟨⟨r, rfl, hr⟩, rfl⟩
  clear hr
  cases r
  · go_wp2
    go_ret2
    exact out_no0 _ _ _
  go_wp2_with fail
  all_goals try (go_ret2; exact out_no0 _ _ _)
  refine (digitRun' v 5 2 5 2 _ hv (by omega) (by omega) rfl rfl).mono ?_
  rintro e w' ⟨⟨r, rfl, hr⟩, rfl⟩
  clear hr
  cases r
  · go_wp2
    go_ret2
    exact out_no0 _ _ _
  go_wp2_with fail
  all_goals try (go_ret2; exact out_no0 _ _ _)
  refine (digitRun' v 8 2 8 2 _ hv (by omega) (by omega) rfl rfl).mono ?_
  rintro e w' ⟨⟨r, rfl, hr⟩, rfl⟩
  clear hr
  cases r
  · go_wp2
    go_ret2
    exact out_no0 _ _ _
  cases h10 : (bt v 10 != 84)
  case true =>
    go_wp2
    go_ret2
    exact out_no0 _ _ _
  go_wp2
  go_loop [5, 6] (fun i h => ∃ hd : Nat, hd ≤ 2 ∧ 11 + hd ≤ v.size ∧ i = .int .i64 (11 + (hd : Int)) ∧ h = .int .i64 (hd : Int)) (fun _ h => 2 - (intOf h).toNat)
  case atStart => exact ⟨0, by omega, by omega, rfl, rfl⟩
  case round =>
    obtain ⟨hd, hd2, hds, rfl, rfl⟩ := hrel
    rcases (show hd = 0 ∨ hd = 1 ∨ hd = 2 by omega) with rfl | rfl | rfl
    · by_cases g1 : 11 < v.size
      · have j1 : (11 : Int) < (v.size : Int) := by omega
        cases g3 : dig (bt v 11)
        · go_wp2_with fail
          refine (isDig_no _ _ g3).mono ?_
          rintro e w' ⟨rfl, rfl⟩
          go_wp2
          go_ret2
          exact out_no0 _ _ _
        · go_wp2_with fail
          refine (isDig_yes _ _ g3).mono ?_
          rintro e w' ⟨rfl, rfl⟩
          go_wp2
          go_round
          case rel => exact ⟨1, by omega, by omega, rfl, rfl⟩
          case measure => simp [intOf]
      · have j1 : (v.size : Int) ≤ (11 : Int) := by omega
        go_wp2
        go_ret2
        exact out_no0 _ _ _
    · by_cases g1 : 12 < v.size
      · have j1 : (12 : Int) < (v.size : Int) := by omega
        cases g3 : dig (bt v 12)
        · go_wp2_with fail
          refine (isDig_no _ _ g3).mono ?_
          rintro e w' ⟨rfl, rfl⟩
          clear g3
          have j1 : (12 : Int) < (v.size : Int) := by omega
          have hbi := hb 12 (by omega)
          cases e1' : (bt v 12 != 58)
          case true =>
            go_wp2
            go_ret2
            exact out_no0 _ _ _
          have e1 : bt v 12 = 58 := by simpa using e1'
          go_wp2_with fail
          refine (digitRun' v _ _ 13 2 _ hv (by omega) (by omega) rfl rfl).mono ?_
          rintro e w' ⟨⟨r, rfl, hr⟩, rfl⟩
          cases r
          · clear hr
            go_wp2
            go_ret2
            exact out_no0 _ _ _
          have hs1 := (hr rfl).1
          have R1 := hid (hr rfl).2
          clear hr
          by_cases s2 : 15 < v.size
          case neg =>
            have s2' : (v.size : Int) ≤ (15 : Int) := by omega
            go_wp2
            go_ret2
            exact out_no0 _ _ _
          have s2' : (15 : Int) < (v.size : Int) := by omega
          have G1 : Hid (Good v false) := .inl ⟨by omega, (run2 R1.out).1, rfl⟩
          clear e1 e1'
          have hbi3 := hb 15 s2
          cases e2' : (bt v 15 != 58)
          case true =>
            go_wp2
            go_ret2
            exact out_no0 _ _ _
          go_wp2_with fail
          refine (digitRun' v _ _ 16 2 _ hv (by omega) (by omega) rfl rfl).mono ?_
          rintro e w' ⟨⟨r, rfl, hr⟩, rfl⟩
          cases r
          · clear hr
            go_wp2
            go_ret2
            exact out_no0 _ _ _
          have hs2 := (hr rfl).1
          clear hr R1 e2' hbi hbi3
          by_cases f1 : 19 < v.size
          · have f1j : (19 : Int) < (v.size : Int) := by omega
            have hbj := hb 18 (by omega)
            have hbj1 := hb 19 f1
            by_cases f2 : bt v 18 = 46
            · have d46 : (bt v 18 == 46) = true := by rw [f2]; rfl
              have F19 := hid f2
              clear f2
              cases f3 : dig (bt v 19)
              · go_wp2_with fail
                refine (isDig_no _ _ f3).mono ?_
                rintro e w' ⟨rfl, rfl⟩
                clear f3
                have f2 := F19.out
                have fz : (18 : Int) < (v.size : Int) := by omega
                go_wp2
                go_ret2
                exact out_no0 _ _ _
              · go_wp2_with fail
                refine (isDig_yes _ _ f3).mono ?_
                rintro e w' ⟨rfl, rfl⟩
                clear f3
                go_wp2
                go_loop [5] (fun i => ∃ k : Nat, 19 ≤ k ∧ k ≤ v.size ∧ i = .int .i64 (k : Int)) (fun i => v.size - (intOf i).toNat)
                case atStart => exact ⟨19, by omega, by omega, rfl⟩
                case round =>
                  obtain ⟨k, hk1, hk2, rfl⟩ := hrel
                  by_cases hk : k < v.size
                  · have jk : (k : Int) < (v.size : Int) := by omega
                    have hbk0 := hb k hk
                    cases f4 : dig (bt v k)
                    · go_wp2_with fail
                      refine (isDig_no _ _ f4).mono ?_
                      rintro e w' ⟨rfl, rfl⟩
                      clear f4 jk hbk0
                      by_cases z1 : k < v.size
                      · have zj : (k : Int) < (v.size : Int) := by omega
                        have hbk := hb k z1
                        cases z2 : (bt v k == 90)
                        · by_cases z4 : bt v k = 43
                          · clear z2
                            by_cases z5 : (k + 6) = v.size
                            · have z5a : (k + 6) ≤ v.size := by omega
                              have z5b : v.size ≤ (k + 6) := by omega
                              have z5' : ((v.size : Int) - (k : Int) != 6) = false := by simp; omega
                              clear z5
                              have i3 : ((k : Int) + 3) < (v.size : Int) := by omega
                              have hb3 := hb (k + 3) (by omega)
                              cases z6 : (bt v (k + 3) != 58)
                              case true =>
                                go_wp2
                                go_ret2
                                exact out_no0 _ _ _
                              go_wp2_with fail
                              refine (digitRun' v _ _ (k + 1) 2 _ hv (by omega) (by omega) (by first | rfl | omega) (by first | rfl | omega)).mono ?_
                              rintro e w' ⟨⟨r, rfl, hr⟩, rfl⟩
                              cases r
                              · clear hr
                                go_wp2
                                go_ret2
                                exact out_no0 _ _ _
                              have D12 := hid (hr rfl).2
                              clear hr
                              go_wp2_with fail
                              refine (digitRun' v _ _ (k + 4) 2 _ hv (by omega) (by omega) (by first | rfl | omega) (by first | rfl | omega)).mono ?_
                              rintro e w' ⟨⟨r, rfl, hr⟩, rfl⟩
                              cases r
                              · clear hr
                                go_wp2
                                go_ret2
                                exact out_no0 _ _ _
                              have D45 := hid (hr rfl).2
                              clear hr
                              have D1 := hid (run2 D12.out).1
                              have D2 := hid (run2 D12.out).2
                              have D4 := hid (run2 D45.out).1
                              have D5 := hid (run2 D45.out).2
                              have b1 : 48 ≤ bt v (k + 1) ∧ bt v (k + 1) ≤ 57 := dig_bd D1.out
                              have b2 : 48 ≤ bt v (k + 2) ∧ bt v (k + 2) ≤ 57 := dig_bd D2.out
                              have b4 : 48 ≤ bt v (k + 4) ∧ bt v (k + 4) ≤ 57 := dig_bd D4.out
                              have b5 : 48 ≤ bt v (k + 5) ∧ bt v (k + 5) ≤ 57 := dig_bd D5.out
                              have i1 : ((k : Int) + 1) < (v.size : Int) := by omega
                              have i2 : ((k : Int) + 2) < (v.size : Int) := by omega
                              have i4 : ((k : Int) + 4) < (v.size : Int) := by omega
                              have i5 : ((k : Int) + 5) < (v.size : Int) := by omega
                              have hb1 := hb (k + 1) (by omega)
                              have hb2 := hb (k + 2) (by omega)
                              have hb4 := hb (k + 4) (by omega)
                              have hb5 := hb (k + 5) (by omega)
                              go_wp2_with fail
                              go_quiet (fail)
                              go_wp2_with fail
                              go_quiet (fail)
                              go_wp2
                              all_goals go_ret2
                              all_goals
                                exact ⟨⟨true, false, rfl, fun _ => G1.out⟩, _, rfl⟩
                            · have z5' : ((v.size : Int) - (k : Int) != 6) = true := by simp; omega
                              go_wp2
                              go_ret2
                              exact out_no0 _ _ _
                          · have z4' : (bt v k != 43) = true := by simpa using z4
                            clear z4
                            by_cases z4 : bt v k = 45
                            · clear z2 z4'
                              by_cases z5 : (k + 6) = v.size
                              · have z5a : (k + 6) ≤ v.size := by omega
                                have z5b : v.size ≤ (k + 6) := by omega
                                have z5' : ((v.size : Int) - (k : Int) != 6) = false := by simp; omega
                                clear z5
                                have i3 : ((k : Int) + 3) < (v.size : Int) := by omega
                                have hb3 := hb (k + 3) (by omega)
                                cases z6 : (bt v (k + 3) != 58)
                                case true =>
                                  go_wp2
                                  go_ret2
                                  exact out_no0 _ _ _
                                go_wp2_with fail
                                refine (digitRun' v _ _ (k + 1) 2 _ hv (by omega) (by omega) (by first | rfl | omega) (by first | rfl | omega)).mono ?_
                                rintro e w' ⟨⟨r, rfl, hr⟩, rfl⟩
                                cases r
                                · clear hr
                                  go_wp2
                                  go_ret2
                                  exact out_no0 _ _ _
                                have D12 := hid (hr rfl).2
                                clear hr
                                go_wp2_with fail
                                refine (digitRun' v _ _ (k + 4) 2 _ hv (by omega) (by omega) (by first | rfl | omega) (by first | rfl | omega)).mono ?_
                                rintro e w' ⟨⟨r, rfl, hr⟩, rfl⟩
                                cases r
                                · clear hr
                                  go_wp2
                                  go_ret2
                                  exact out_no0 _ _ _
                                have D45 := hid (hr rfl).2
                                clear hr
                                have D1 := hid (run2 D12.out).1
                                have D2 := hid (run2 D12.out).2
                                have D4 := hid (run2 D45.out).1
                                have D5 := hid (run2 D45.out).2
                                have b1 : 48 ≤ bt v (k + 1) ∧ bt v (k + 1) ≤ 57 := dig_bd D1.out
                                have b2 : 48 ≤ bt v (k + 2) ∧ bt v (k + 2) ≤ 57 := dig_bd D2.out
                                have b4 : 48 ≤ bt v (k + 4) ∧ bt v (k + 4) ≤ 57 := dig_bd D4.out
                                have b5 : 48 ≤ bt v (k + 5) ∧ bt v (k + 5) ≤ 57 := dig_bd D5.out
                                have i1 : ((k : Int) + 1) < (v.size : Int) := by omega
                                have i2 : ((k : Int) + 2) < (v.size : Int) := by omega
                                have i4 : ((k : Int) + 4) < (v.size : Int) := by omega
                                have i5 : ((k : Int) + 5) < (v.size : Int) := by omega
                                have hb1 := hb (k + 1) (by omega)
                                have hb2 := hb (k + 2) (by omega)
                                have hb4 := hb (k + 4) (by omega)
                                have hb5 := hb (k + 5) (by omega)
                                go_wp2_with fail
                                go_quiet (fail)
                                go_wp2_with fail
                                go_quiet (fail)
                                go_wp2
                                all_goals go_ret2
                                all_goals
                                  exact ⟨⟨true, false, rfl, fun _ => G1.out⟩, _, rfl⟩
                              · have z5' : ((v.size : Int) - (k : Int) != 6) = true := by simp; omega
                                go_wp2
                                go_ret2
                                exact out_no0 _ _ _
                            · have z4'' : (bt v k != 45) = true := by simpa using z4
                              clear z4
                              go_wp2
                              go_ret2
                              exact out_no0 _ _ _
                        · have Z2 := hid z2
                          by_cases z3 : (k + 1) = v.size
                          · have z3' : (((k : Int) + 1) != (v.size : Int)) = false := by simp; omega
                            have z3a : (k + 1) ≤ v.size := by omega
                            have z3b : v.size ≤ (k + 1) := by omega
                            clear z3
                            go_wp2
                            go_ret2
                            exact ⟨⟨true, false, rfl, fun _ => G1.out⟩, 0, rfl⟩
                          · have z3' : (((k : Int) + 1) != (v.size : Int)) = true := by simp; omega
                            go_wp2
                            go_ret2
                            exact out_no0 _ _ _
                      · exact absurd hk z1
                    · go_wp2_with fail
                      refine (isDig_yes _ _ f4).mono ?_
                      rintro e w' ⟨rfl, rfl⟩
                      go_wp2
                      go_round
                      case rel => exact ⟨k + 1, by omega, by omega, by go_num⟩
                      case measure => simp [intOf]; omega
                  · have jk : (v.size : Int) ≤ (k : Int) := by omega
                    go_wp2
                    go_ret2
                    exact out_no0 _ _ _
            · have d46 : (bt v 18 == 46) = false := by simpa using f2
              clear f2
              by_cases f2 : bt v 18 = 44
              · have d44 : (bt v 18 == 44) = true := by rw [f2]; rfl
                have F19 := hid f2
                clear f2
                cases f3 : dig (bt v 19)
                · go_wp2_with fail
                  refine (isDig_no _ _ f3).mono ?_
                  rintro e w' ⟨rfl, rfl⟩
                  clear f3
                  have f2 := F19.out
                  have fz : (18 : Int) < (v.size : Int) := by omega
                  go_wp2
                  go_ret2
                  exact out_no0 _ _ _
                · go_wp2_with fail
                  refine (isDig_yes _ _ f3).mono ?_
                  rintro e w' ⟨rfl, rfl⟩
                  clear f3
                  go_wp2
                  go_loop [5] (fun i => ∃ k : Nat, 19 ≤ k ∧ k ≤ v.size ∧ i = .int .i64 (k : Int)) (fun i => v.size - (intOf i).toNat)
                  case atStart => exact ⟨19, by omega, by omega, rfl⟩
                  case round =>
                    obtain ⟨k, hk1, hk2, rfl⟩ := hrel
                    by_cases hk : k < v.size
                    · have jk : (k : Int) < (v.size : Int) := by omega
                      have hbk0 := hb k hk
                      cases f4 : dig (bt v k)
                      · go_wp2_with fail
                        refine (isDig_no _ _ f4).mono ?_
                        rintro e w' ⟨rfl, rfl⟩
                        clear f4 jk hbk0
                        by_cases z1 : k < v.size
                        · have zj : (k : Int) < (v.size : Int) := by omega
                          have hbk := hb k z1
                          cases z2 : (bt v k == 90)
                          · by_cases z4 : bt v k = 43
                            · clear z2
                              by_cases z5 : (k + 6) = v.size
                              · have z5a : (k + 6) ≤ v.size := by omega
                                have z5b : v.size ≤ (k + 6) := by omega
                                have z5' : ((v.size : Int) - (k : Int) != 6) = false := by simp; omega
                                clear z5
                                have i3 : ((k : Int) + 3) < (v.size : Int) := by omega
                                have hb3 := hb (k + 3) (by omega)
                                cases z6 : (bt v (k + 3) != 58)
                                case true =>
                                  go_wp2
                                  go_ret2
                                  exact out_no0 _ _ _
                                go_wp2_with fail
                                refine (digitRun' v _ _ (k + 1) 2 _ hv (by omega) (by omega) (by first | rfl | omega) (by first | rfl | omega)).mono ?_
                                rintro e w' ⟨⟨r, rfl, hr⟩, rfl⟩
                                cases r
                                · clear hr
                                  go_wp2
                                  go_ret2
                                  exact out_no0 _ _ _
                                have D12 := hid (hr rfl).2
                                clear hr
                                go_wp2_with fail
                                refine (digitRun' v _ _ (k + 4) 2 _ hv (by omega) (by omega) (by first | rfl | omega) (by first | rfl | omega)).mono ?_
                                rintro e w' ⟨⟨r, rfl, hr⟩, rfl⟩
                                cases r
                                · clear hr
                                  go_wp2
                                  go_ret2
                                  exact out_no0 _ _ _
                                have D45 := hid (hr rfl).2
                                clear hr
                                have D1 := hid (run2 D12.out).1
                                have D2 := hid (run2 D12.out).2
                                have D4 := hid (run2 D45.out).1
                                have D5 := hid (run2 D45.out).2
                                have b1 : 48 ≤ bt v (k + 1) ∧ bt v (k + 1) ≤ 57 := dig_bd D1.out
                                have b2 : 48 ≤ bt v (k + 2) ∧ bt v (k + 2) ≤ 57 := dig_bd D2.out
                                have b4 : 48 ≤ bt v (k + 4) ∧ bt v (k + 4) ≤ 57 := dig_bd D4.out
                                have b5 : 48 ≤ bt v (k + 5) ∧ bt v (k + 5) ≤ 57 := dig_bd D5.out
                                have i1 : ((k : Int) + 1) < (v.size : Int) := by omega
                                have i2 : ((k : Int) + 2) < (v.size : Int) := by omega
                                have i4 : ((k : Int) + 4) < (v.size : Int) := by omega
                                have i5 : ((k : Int) + 5) < (v.size : Int) := by omega
                                have hb1 := hb (k + 1) (by omega)
                                have hb2 := hb (k + 2) (by omega)
                                have hb4 := hb (k + 4) (by omega)
                                have hb5 := hb (k + 5) (by omega)
                                go_wp2_with fail
                                go_quiet (fail)
                                go_wp2_with fail
                                go_quiet (fail)
                                go_wp2
                                all_goals go_ret2
                                all_goals
                                  exact ⟨⟨true, false, rfl, fun _ => G1.out⟩, _, rfl⟩
                              · have z5' : ((v.size : Int) - (k : Int) != 6) = true := by simp; omega
                                go_wp2
                                go_ret2
                                exact out_no0 _ _ _
                            · have z4' : (bt v k != 43) = true := by simpa using z4
                              clear z4
                              by_cases z4 : bt v k = 45
                              · clear z2 z4'
                                by_cases z5 : (k + 6) = v.size
                                · have z5a : (k + 6) ≤ v.size := by omega
                                  have z5b : v.size ≤ (k + 6) := by omega
                                  have z5' : ((v.size : Int) - (k : Int) != 6) = false := by simp; omega
                                  clear z5
                                  have i3 : ((k : Int) + 3) < (v.size : Int) := by omega
                                  have hb3 := hb (k + 3) (by omega)
                                  cases z6 : (bt v (k + 3) != 58)
                                  case true =>
                                    go_wp2
                                    go_ret2
                                    exact out_no0 _ _ _
                                  go_wp2_with fail
                                  refine (digitRun' v _ _ (k + 1) 2 _ hv (by omega) (by omega) (by first | rfl | omega) (by first | rfl | omega)).mono ?_
                                  rintro e w' ⟨⟨r, rfl, hr⟩, rfl⟩
                                  cases r
                                  · clear hr
                                    go_wp2
                                    go_ret2
                                    exact out_no0 _ _ _
                                  have D12 := hid (hr rfl).2
                                  clear hr
                                  go_wp2_with fail
                                  refine (digitRun' v _ _ (k + 4) 2 _ hv (by omega) (by omega) (by first | rfl | omega) (by first | rfl | omega)).mono ?_
                                  rintro e w' ⟨⟨r, rfl, hr⟩, rfl⟩
                                  cases r
                                  · clear hr
                                    go_wp2
                                    go_ret2
                                    exact out_no0 _ _ _
                                  have D45 := hid (hr rfl).2
                                  clear hr
                                  have D1 := hid (run2 D12.out).1
                                  have D2 := hid (run2 D12.out).2
                                  have D4 := hid (run2 D45.out).1
                                  have D5 := hid (run2 D45.out).2
                                  have b1 : 48 ≤ bt v (k + 1) ∧ bt v (k + 1) ≤ 57 := dig_bd D1.out
                                  have b2 : 48 ≤ bt v (k + 2) ∧ bt v (k + 2) ≤ 57 := dig_bd D2.out
                                  have b4 : 48 ≤ bt v (k + 4) ∧ bt v (k + 4) ≤ 57 := dig_bd D4.out
                                  have b5 : 48 ≤ bt v (k + 5) ∧ bt v (k + 5) ≤ 57 := dig_bd D5.out
                                  have i1 : ((k : Int) + 1) < (v.size : Int) := by omega
                                  have i2 : ((k : Int) + 2) < (v.size : Int) := by omega
                                  have i4 : ((k : Int) + 4) < (v.size : Int) := by omega
                                  have i5 : ((k : Int) + 5) < (v.size : Int) := by omega
                                  have hb1 := hb (k + 1) (by omega)
                                  have hb2 := hb (k + 2) (by omega)
                                  have hb4 := hb (k + 4) (by omega)
                                  have hb5 := hb (k + 5) (by omega)
                                  go_wp2_with fail
                                  go_quiet (fail)
                                  go_wp2_with fail
                                  go_quiet (fail)
                                  go_wp2
                                  all_goals go_ret2
                                  all_goals
                                    exact ⟨⟨true, false, rfl, fun _ => G1.out⟩, _, rfl⟩
                                · have z5' : ((v.size : Int) - (k : Int) != 6) = true := by simp; omega
                                  go_wp2
                                  go_ret2
                                  exact out_no0 _ _ _
                              · have z4'' : (bt v k != 45) = true := by simpa using z4
                                clear z4
                                go_wp2
                                go_ret2
                                exact out_no0 _ _ _
                          · have Z2 := hid z2
                            by_cases z3 : (k + 1) = v.size
                            · have z3' : (((k : Int) + 1) != (v.size : Int)) = false := by simp; omega
                              have z3a : (k + 1) ≤ v.size := by omega
                              have z3b : v.size ≤ (k + 1) := by omega
                              clear z3
                              go_wp2
                              go_ret2
                              exact ⟨⟨true, false, rfl, fun _ => G1.out⟩, 0, rfl⟩
                            · have z3' : (((k : Int) + 1) != (v.size : Int)) = true := by simp; omega
                              go_wp2
                              go_ret2
                              exact out_no0 _ _ _
                        · exact absurd hk z1
                      · go_wp2_with fail
                        refine (isDig_yes _ _ f4).mono ?_
                        rintro e w' ⟨rfl, rfl⟩
                        go_wp2
                        go_round
                        case rel => exact ⟨k + 1, by omega, by omega, by go_num⟩
                        case measure => simp [intOf]; omega
                    · have jk : (v.size : Int) ≤ (k : Int) := by omega
                      go_wp2
                      go_ret2
                      exact out_no0 _ _ _
              · have d44 : (bt v 18 == 44) = false := by simpa using f2
                clear f2
                by_cases z1 : 18 < v.size
                · have zj : (18 : Int) < (v.size : Int) := by omega
                  have hbk := hb 18 z1
                  cases z2 : (bt v 18 == 90)
                  · by_cases z4 : bt v 18 = 43
                    · clear z2
                      by_cases z5 : 24 = v.size
                      · have z5a : 24 ≤ v.size := by omega
                        have z5b : v.size ≤ 24 := by omega
                        have z5' : ((v.size : Int) - (18 : Int) != 6) = false := by simp; omega
                        clear z5
                        have i3 : (21 : Int) < (v.size : Int) := by omega
                        have hb3 := hb 21 (by omega)
                        cases z6 : (bt v 21 != 58)
                        case true =>
                          go_wp2
                          go_ret2
                          exact out_no0 _ _ _
                        go_wp2_with fail
                        refine (digitRun' v _ _ 19 2 _ hv (by omega) (by omega) (by first | rfl | omega) (by first | rfl | omega)).mono ?_
                        rintro e w' ⟨⟨r, rfl, hr⟩, rfl⟩
                        cases r
                        · clear hr
                          go_wp2
                          go_ret2
                          exact out_no0 _ _ _
                        have D12 := hid (hr rfl).2
                        clear hr
                        go_wp2_with fail
                        refine (digitRun' v _ _ 22 2 _ hv (by omega) (by omega) (by first | rfl | omega) (by first | rfl | omega)).mono ?_
                        rintro e w' ⟨⟨r, rfl, hr⟩, rfl⟩
                        cases r
                        · clear hr
                          go_wp2
                          go_ret2
                          exact out_no0 _ _ _
                        have D45 := hid (hr rfl).2
                        clear hr
                        have D1 := hid (run2 D12.out).1
                        have D2 := hid (run2 D12.out).2
                        have D4 := hid (run2 D45.out).1
                        have D5 := hid (run2 D45.out).2
                        have b1 : 48 ≤ bt v 19 ∧ bt v 19 ≤ 57 := dig_bd D1.out
                        have b2 : 48 ≤ bt v 20 ∧ bt v 20 ≤ 57 := dig_bd D2.out
                        have b4 : 48 ≤ bt v 22 ∧ bt v 22 ≤ 57 := dig_bd D4.out
                        have b5 : 48 ≤ bt v 23 ∧ bt v 23 ≤ 57 := dig_bd D5.out
                        have i1 : (19 : Int) < (v.size : Int) := by omega
                        have i2 : (20 : Int) < (v.size : Int) := by omega
                        have i4 : (22 : Int) < (v.size : Int) := by omega
                        have i5 : (23 : Int) < (v.size : Int) := by omega
                        have hb1 := hb 19 (by omega)
                        have hb2 := hb 20 (by omega)
                        have hb4 := hb 22 (by omega)
                        have hb5 := hb 23 (by omega)
                        go_wp2_with fail
                        go_quiet (fail)
                        go_wp2_with fail
                        go_quiet (fail)
                        go_wp2
                        all_goals go_ret2
                        all_goals
                          exact ⟨⟨true, false, rfl, fun _ => G1.out⟩, _, rfl⟩
                      · have z5' : ((v.size : Int) - (18 : Int) != 6) = true := by simp; omega
                        go_wp2
                        go_ret2
                        exact out_no0 _ _ _
                    · have z4' : (bt v 18 != 43) = true := by simpa using z4
                      clear z4
                      by_cases z4 : bt v 18 = 45
                      · clear z2 z4'
                        by_cases z5 : 24 = v.size
                        · have z5a : 24 ≤ v.size := by omega
                          have z5b : v.size ≤ 24 := by omega
                          have z5' : ((v.size : Int) - (18 : Int) != 6) = false := by simp; omega
                          clear z5
                          have i3 : (21 : Int) < (v.size : Int) := by omega
                          have hb3 := hb 21 (by omega)
                          cases z6 : (bt v 21 != 58)
                          case true =>
                            go_wp2
                            go_ret2
                            exact out_no0 _ _ _
                          go_wp2_with fail
                          refine (digitRun' v _ _ 19 2 _ hv (by omega) (by omega) (by first | rfl | omega) (by first | rfl | omega)).mono ?_
                          rintro e w' ⟨⟨r, rfl, hr⟩, rfl⟩
                          cases r
                          · clear hr
                            go_wp2
                            go_ret2
                            exact out_no0 _ _ _
                          have D12 := hid (hr rfl).2
                          clear hr
                          go_wp2_with fail
                          refine (digitRun' v _ _ 22 2 _ hv (by omega) (by omega) (by first | rfl | omega) (by first | rfl | omega)).mono ?_
                          rintro e w' ⟨⟨r, rfl, hr⟩, rfl⟩
                          cases r
                          · clear hr
                            go_wp2
                            go_ret2
                            exact out_no0 _ _ _
                          have D45 := hid (hr rfl).2
                          clear hr
                          have D1 := hid (run2 D12.out).1
                          have D2 := hid (run2 D12.out).2
                          have D4 := hid (run2 D45.out).1
                          have D5 := hid (run2 D45.out).2
                          have b1 : 48 ≤ bt v 19 ∧ bt v 19 ≤ 57 := dig_bd D1.out
                          have b2 : 48 ≤ bt v 20 ∧ bt v 20 ≤ 57 := dig_bd D2.out
                          have b4 : 48 ≤ bt v 22 ∧ bt v 22 ≤ 57 := dig_bd D4.out
                          have b5 : 48 ≤ bt v 23 ∧ bt v 23 ≤ 57 := dig_bd D5.out
                          have i1 : (19 : Int) < (v.size : Int) := by omega
                          have i2 : (20 : Int) < (v.size : Int) := by omega
                          have i4 : (22 : Int) < (v.size : Int) := by omega
                          have i5 : (23 : Int) < (v.size : Int) := by omega
                          have hb1 := hb 19 (by omega)
                          have hb2 := hb 20 (by omega)
                          have hb4 := hb 22 (by omega)
                          have hb5 := hb 23 (by omega)
                          go_wp2_with fail
                          go_quiet (fail)
                          go_wp2_with fail
                          go_quiet (fail)
                          go_wp2
                          all_goals go_ret2
                          all_goals
                            exact ⟨⟨true, false, rfl, fun _ => G1.out⟩, _, rfl⟩
                        · have z5' : ((v.size : Int) - (18 : Int) != 6) = true := by simp; omega
                          go_wp2
                          go_ret2
                          exact out_no0 _ _ _
                      · have z4'' : (bt v 18 != 45) = true := by simpa using z4
                        clear z4
                        go_wp2
                        go_ret2
                        exact out_no0 _ _ _
                  · have Z2 := hid z2
                    by_cases z3 : 19 = v.size
                    · exact absurd z3 (by omega)
                    · have z3' : ((19 : Int) != (v.size : Int)) = true := by simp; omega
                      go_wp2
                      go_ret2
                      exact out_no0 _ _ _
                · exact absurd f1 (by omega)
          · have f1j : (v.size : Int) ≤ (19 : Int) := by omega
            by_cases z1 : 18 < v.size
            · have zj : (18 : Int) < (v.size : Int) := by omega
              have hbk := hb 18 z1
              have z3' : ((19 : Int) != (v.size : Int)) = false := by simp; omega
              cases z2 : (bt v 18 == 90)
              · have z5' : ((v.size : Int) - (18 : Int) != 6) = true := by simp; omega
                go_wp2
                all_goals
                  go_ret2
                  exact out_no0 _ _ _
              · have Z2 := hid z2
                go_wp2
                go_ret2
                exact ⟨⟨true, false, rfl, fun _ => G1.out⟩, 0, rfl⟩
            · have zj : (v.size : Int) ≤ (18 : Int) := by omega
              go_wp2
              go_ret2
              exact out_no0 _ _ _
        · go_wp2_with fail
          refine (isDig_yes _ _ g3).mono ?_
          rintro e w' ⟨rfl, rfl⟩
          go_wp2
          go_round
          case rel => exact ⟨2, by omega, by omega, rfl, rfl⟩
          case measure => simp [intOf]
      · have j1 : (v.size : Int) ≤ (12 : Int) := by omega
        go_wp2
        go_ret2
        exact out_no0 _ _ _
    · by_cases g1 : 13 < v.size
      · 
        have j1 : (13 : Int) < (v.size : Int) := by omega
        have hbi := hb 13 (by omega)
        cases e1' : (bt v 13 != 58)
        case true =>
          go_wp2
          go_ret2
          exact out_no0 _ _ _
        have e1 : bt v 13 = 58 := by simpa using e1'
        go_wp2_with fail
        refine (digitRun' v _ _ 14 2 _ hv (by omega) (by omega) rfl rfl).mono ?_
        rintro e w' ⟨⟨r, rfl, hr⟩, rfl⟩
        cases r
        · clear hr
          go_wp2
          go_ret2
          exact out_no0 _ _ _
        have hs1 := (hr rfl).1
        have R1 := hid (hr rfl).2
        clear hr
        by_cases s2 : 16 < v.size
        case neg =>
          have s2' : (v.size : Int) ≤ (16 : Int) := by omega
          go_wp2
          go_ret2
          exact out_no0 _ _ _
        have s2' : (16 : Int) < (v.size : Int) := by omega
        have G2 : Hid (bt v 13 = 58) := e1
        clear e1 e1'
        have hbi3 := hb 16 s2
        cases e2' : (bt v 16 != 58)
        case true =>
          go_wp2
          go_ret2
          exact out_no0 _ _ _
        go_wp2_with fail
        refine (digitRun' v _ _ 17 2 _ hv (by omega) (by omega) rfl rfl).mono ?_
        rintro e w' ⟨⟨r, rfl, hr⟩, rfl⟩
        cases r
        · clear hr
          go_wp2
          go_ret2
          exact out_no0 _ _ _
        have hs2 := (hr rfl).1
        clear hr R1 e2' hbi hbi3
        by_cases f1 : 20 < v.size
        · have f1j : (20 : Int) < (v.size : Int) := by omega
          have hbj := hb 19 (by omega)
          have hbj1 := hb 20 f1
          by_cases f2 : bt v 19 = 46
          · have d46 : (bt v 19 == 46) = true := by rw [f2]; rfl
            have F19 := hid f2
            clear f2
            cases f3 : dig (bt v 20)
            · go_wp2_with fail
              refine (isDig_no _ _ f3).mono ?_
              rintro e w' ⟨rfl, rfl⟩
              clear f3
              have f2 := F19.out
              have fz : (19 : Int) < (v.size : Int) := by omega
              go_wp2
              go_ret2
              exact out_no0 _ _ _
            · go_wp2_with fail
              refine (isDig_yes _ _ f3).mono ?_
              rintro e w' ⟨rfl, rfl⟩
              clear f3
              go_wp2
              go_loop [5] (fun i => ∃ k : Nat, 20 ≤ k ∧ k ≤ v.size ∧ i = .int .i64 (k : Int)) (fun i => v.size - (intOf i).toNat)
              case atStart => exact ⟨20, by omega, by omega, rfl⟩
              case round =>
                obtain ⟨k, hk1, hk2, rfl⟩ := hrel
                by_cases hk : k < v.size
                · have jk : (k : Int) < (v.size : Int) := by omega
                  have hbk0 := hb k hk
                  cases f4 : dig (bt v k)
                  · go_wp2_with fail
                    refine (isDig_no _ _ f4).mono ?_
                    rintro e w' ⟨rfl, rfl⟩
                    clear f4 jk hbk0
                    by_cases z1 : k < v.size
                    · have zj : (k : Int) < (v.size : Int) := by omega
                      have hbk := hb k z1
                      cases z2 : (bt v k == 90)
                      · by_cases z4 : bt v k = 43
                        · clear z2
                          by_cases z5 : (k + 6) = v.size
                          · have z5a : (k + 6) ≤ v.size := by omega
                            have z5b : v.size ≤ (k + 6) := by omega
                            have z5' : ((v.size : Int) - (k : Int) != 6) = false := by simp; omega
                            clear z5
                            have i3 : ((k : Int) + 3) < (v.size : Int) := by omega
                            have hb3 := hb (k + 3) (by omega)
                            cases z6 : (bt v (k + 3) != 58)
                            case true =>
                              go_wp2
                              go_ret2
                              exact out_no0 _ _ _
                            go_wp2_with fail
                            refine (digitRun' v _ _ (k + 1) 2 _ hv (by omega) (by omega) (by first | rfl | omega) (by first | rfl | omega)).mono ?_
                            rintro e w' ⟨⟨r, rfl, hr⟩, rfl⟩
                            cases r
                            · clear hr
                              go_wp2
                              go_ret2
                              exact out_no0 _ _ _
                            have D12 := hid (hr rfl).2
                            clear hr
                            go_wp2_with fail
                            refine (digitRun' v _ _ (k + 4) 2 _ hv (by omega) (by omega) (by first | rfl | omega) (by first | rfl | omega)).mono ?_
                            rintro e w' ⟨⟨r, rfl, hr⟩, rfl⟩
                            cases r
                            · clear hr
                              go_wp2
                              go_ret2
                              exact out_no0 _ _ _
                            have D45 := hid (hr rfl).2
                            clear hr
                            have D1 := hid (run2 D12.out).1
                            have D2 := hid (run2 D12.out).2
                            have D4 := hid (run2 D45.out).1
                            have D5 := hid (run2 D45.out).2
                            have b1 : 48 ≤ bt v (k + 1) ∧ bt v (k + 1) ≤ 57 := dig_bd D1.out
                            have b2 : 48 ≤ bt v (k + 2) ∧ bt v (k + 2) ≤ 57 := dig_bd D2.out
                            have b4 : 48 ≤ bt v (k + 4) ∧ bt v (k + 4) ≤ 57 := dig_bd D4.out
                            have b5 : 48 ≤ bt v (k + 5) ∧ bt v (k + 5) ≤ 57 := dig_bd D5.out
                            have i1 : ((k : Int) + 1) < (v.size : Int) := by omega
                            have i2 : ((k : Int) + 2) < (v.size : Int) := by omega
                            have i4 : ((k : Int) + 4) < (v.size : Int) := by omega
                            have i5 : ((k : Int) + 5) < (v.size : Int) := by omega
                            have hb1 := hb (k + 1) (by omega)
                            have hb2 := hb (k + 2) (by omega)
                            have hb4 := hb (k + 4) (by omega)
                            have hb5 := hb (k + 5) (by omega)
                            go_wp2_with fail
                            go_quiet (fail)
                            go_wp2_with fail
                            go_quiet (fail)
                            go_wp2
                            all_goals go_ret2
                            all_goals
                              refine ⟨⟨true, _, rfl, fun _ => .inr (.inr (.inr ⟨by omega, G2.out, by rw [F19.out]; decide, by rw [show v.size - 5 = (k + 1) by omega]; exact D1.out, by rw [show v.size - 4 = (k + 2) by omega]; exact D2.out, by rw [show v.size - 2 = (k + 4) by omega]; exact D4.out, by rw [show v.size - 1 = (k + 5) by omega]; exact D5.out, ?_⟩))⟩, _, rfl⟩
                              rw [show v.size - 5 = (k + 1) by omega, show v.size - 4 = (k + 2) by omega, show v.size - 2 = (k + 4) by omega, show v.size - 1 = (k + 5) by omega]
                              rw [Bool.eq_iff_iff]
                              simp
                              omega
                          · have z5' : ((v.size : Int) - (k : Int) != 6) = true := by simp; omega
                            go_wp2
                            go_ret2
                            exact out_no0 _ _ _
                        · have z4' : (bt v k != 43) = true := by simpa using z4
                          clear z4
                          by_cases z4 : bt v k = 45
                          · clear z2 z4'
                            by_cases z5 : (k + 6) = v.size
                            · have z5a : (k + 6) ≤ v.size := by omega
                              have z5b : v.size ≤ (k + 6) := by omega
                              have z5' : ((v.size : Int) - (k : Int) != 6) = false := by simp; omega
                              clear z5
                              have i3 : ((k : Int) + 3) < (v.size : Int) := by omega
                              have hb3 := hb (k + 3) (by omega)
                              cases z6 : (bt v (k + 3) != 58)
                              case true =>
                                go_wp2
                                go_ret2
                                exact out_no0 _ _ _
                              go_wp2_with fail
                              refine (digitRun' v _ _ (k + 1) 2 _ hv (by omega) (by omega) (by first | rfl | omega) (by first | rfl | omega)).mono ?_
                              rintro e w' ⟨⟨r, rfl, hr⟩, rfl⟩
                              cases r
                              · clear hr
                                go_wp2
                                go_ret2
                                exact out_no0 _ _ _
                              have D12 := hid (hr rfl).2
                              clear hr
                              go_wp2_with fail
                              refine (digitRun' v _ _ (k + 4) 2 _ hv (by omega) (by omega) (by first | rfl | omega) (by first | rfl | omega)).mono ?_
                              rintro e w' ⟨⟨r, rfl, hr⟩, rfl⟩
                              cases r
                              · clear hr
                                go_wp2
                                go_ret2
                                exact out_no0 _ _ _
                              have D45 := hid (hr rfl).2
                              clear hr
                              have D1 := hid (run2 D12.out).1
                              have D2 := hid (run2 D12.out).2
                              have D4 := hid (run2 D45.out).1
                              have D5 := hid (run2 D45.out).2
                              have b1 : 48 ≤ bt v (k + 1) ∧ bt v (k + 1) ≤ 57 := dig_bd D1.out
                              have b2 : 48 ≤ bt v (k + 2) ∧ bt v (k + 2) ≤ 57 := dig_bd D2.out
                              have b4 : 48 ≤ bt v (k + 4) ∧ bt v (k + 4) ≤ 57 := dig_bd D4.out
                              have b5 : 48 ≤ bt v (k + 5) ∧ bt v (k + 5) ≤ 57 := dig_bd D5.out
                              have i1 : ((k : Int) + 1) < (v.size : Int) := by omega
                              have i2 : ((k : Int) + 2) < (v.size : Int) := by omega
                              have i4 : ((k : Int) + 4) < (v.size : Int) := by omega
                              have i5 : ((k : Int) + 5) < (v.size : Int) := by omega
                              have hb1 := hb (k + 1) (by omega)
                              have hb2 := hb (k + 2) (by omega)
                              have hb4 := hb (k + 4) (by omega)
                              have hb5 := hb (k + 5) (by omega)
                              go_wp2_with fail
                              go_quiet (fail)
                              go_wp2_with fail
                              go_quiet (fail)
                              go_wp2
                              all_goals go_ret2
                              all_goals
                                refine ⟨⟨true, _, rfl, fun _ => .inr (.inr (.inr ⟨by omega, G2.out, by rw [F19.out]; decide, by rw [show v.size - 5 = (k + 1) by omega]; exact D1.out, by rw [show v.size - 4 = (k + 2) by omega]; exact D2.out, by rw [show v.size - 2 = (k + 4) by omega]; exact D4.out, by rw [show v.size - 1 = (k + 5) by omega]; exact D5.out, ?_⟩))⟩, _, rfl⟩
                                rw [show v.size - 5 = (k + 1) by omega, show v.size - 4 = (k + 2) by omega, show v.size - 2 = (k + 4) by omega, show v.size - 1 = (k + 5) by omega]
                                rw [Bool.eq_iff_iff]
                                simp
                                omega
                            · have z5' : ((v.size : Int) - (k : Int) != 6) = true := by simp; omega
                              go_wp2
                              go_ret2
                              exact out_no0 _ _ _
                          · have z4'' : (bt v k != 45) = true := by simpa using z4
                            clear z4
                            go_wp2
                            go_ret2
                            exact out_no0 _ _ _
                      · have Z2 := hid z2
                        by_cases z3 : (k + 1) = v.size
                        · have z3' : (((k : Int) + 1) != (v.size : Int)) = false := by simp; omega
                          have z3a : (k + 1) ≤ v.size := by omega
                          have z3b : v.size ≤ (k + 1) := by omega
                          clear z3
                          go_wp2
                          go_ret2
                          exact ⟨⟨true, true, rfl, fun _ => .inr (.inr (.inl ⟨by omega, G2.out, by rw [F19.out]; decide, by rw [show v.size - 1 = k by omega]; have := Z2.out; simpa using this, rfl⟩))⟩, 0, rfl⟩
                        · have z3' : (((k : Int) + 1) != (v.size : Int)) = true := by simp; omega
                          go_wp2
                          go_ret2
                          exact out_no0 _ _ _
                    · exact absurd hk z1
                  · go_wp2_with fail
                    refine (isDig_yes _ _ f4).mono ?_
                    rintro e w' ⟨rfl, rfl⟩
                    go_wp2
                    go_round
                    case rel => exact ⟨k + 1, by omega, by omega, by go_num⟩
                    case measure => simp [intOf]; omega
                · have jk : (v.size : Int) ≤ (k : Int) := by omega
                  go_wp2
                  go_ret2
                  exact out_no0 _ _ _
          · have d46 : (bt v 19 == 46) = false := by simpa using f2
            clear f2
            by_cases f2 : bt v 19 = 44
            · have d44 : (bt v 19 == 44) = true := by rw [f2]; rfl
              have F19 := hid f2
              clear f2
              cases f3 : dig (bt v 20)
              · go_wp2_with fail
                refine (isDig_no _ _ f3).mono ?_
                rintro e w' ⟨rfl, rfl⟩
                clear f3
                have f2 := F19.out
                have fz : (19 : Int) < (v.size : Int) := by omega
                go_wp2
                go_ret2
                exact out_no0 _ _ _
              · go_wp2_with fail
                refine (isDig_yes _ _ f3).mono ?_
                rintro e w' ⟨rfl, rfl⟩
                clear f3
                go_wp2
                go_loop [5] (fun i => ∃ k : Nat, 20 ≤ k ∧ k ≤ v.size ∧ i = .int .i64 (k : Int)) (fun i => v.size - (intOf i).toNat)
                case atStart => exact ⟨20, by omega, by omega, rfl⟩
                case round =>
                  obtain ⟨k, hk1, hk2, rfl⟩ := hrel
                  by_cases hk : k < v.size
                  · have jk : (k : Int) < (v.size : Int) := by omega
                    have hbk0 := hb k hk
                    cases f4 : dig (bt v k)
                    · go_wp2_with fail
                      refine (isDig_no _ _ f4).mono ?_
                      rintro e w' ⟨rfl, rfl⟩
                      clear f4 jk hbk0
                      by_cases z1 : k < v.size
                      · have zj : (k : Int) < (v.size : Int) := by omega
                        have hbk := hb k z1
                        cases z2 : (bt v k == 90)
                        · by_cases z4 : bt v k = 43
                          · clear z2
                            by_cases z5 : (k + 6) = v.size
                            · have z5a : (k + 6) ≤ v.size := by omega
                              have z5b : v.size ≤ (k + 6) := by omega
                              have z5' : ((v.size : Int) - (k : Int) != 6) = false := by simp; omega
                              clear z5
                              have i3 : ((k : Int) + 3) < (v.size : Int) := by omega
                              have hb3 := hb (k + 3) (by omega)
                              cases z6 : (bt v (k + 3) != 58)
                              case true =>
                                go_wp2
                                go_ret2
                                exact out_no0 _ _ _
                              go_wp2_with fail
                              refine (digitRun' v _ _ (k + 1) 2 _ hv (by omega) (by omega) (by first | rfl | omega) (by first | rfl | omega)).mono ?_
                              rintro e w' ⟨⟨r, rfl, hr⟩, rfl⟩
                              cases r
                              · clear hr
                                go_wp2
                                go_ret2
                                exact out_no0 _ _ _
                              have D12 := hid (hr rfl).2
                              clear hr
                              go_wp2_with fail
                              refine (digitRun' v _ _ (k + 4) 2 _ hv (by omega) (by omega) (by first | rfl | omega) (by first | rfl | omega)).mono ?_
                              rintro e w' ⟨⟨r, rfl, hr⟩, rfl⟩
                              cases r
                              · clear hr
                                go_wp2
                                go_ret2
                                exact out_no0 _ _ _
                              have D45 := hid (hr rfl).2
                              clear hr
                              have D1 := hid (run2 D12.out).1
                              have D2 := hid (run2 D12.out).2
                              have D4 := hid (run2 D45.out).1
                              have D5 := hid (run2 D45.out).2
                              have b1 : 48 ≤ bt v (k + 1) ∧ bt v (k + 1) ≤ 57 := dig_bd D1.out
                              have b2 : 48 ≤ bt v (k + 2) ∧ bt v (k + 2) ≤ 57 := dig_bd D2.out
                              have b4 : 48 ≤ bt v (k + 4) ∧ bt v (k + 4) ≤ 57 := dig_bd D4.out
                              have b5 : 48 ≤ bt v (k + 5) ∧ bt v (k + 5) ≤ 57 := dig_bd D5.out
                              have i1 : ((k : Int) + 1) < (v.size : Int) := by omega
                              have i2 : ((k : Int) + 2) < (v.size : Int) := by omega
                              have i4 : ((k : Int) + 4) < (v.size : Int) := by omega
                              have i5 : ((k : Int) + 5) < (v.size : Int) := by omega
                              have hb1 := hb (k + 1) (by omega)
                              have hb2 := hb (k + 2) (by omega)
                              have hb4 := hb (k + 4) (by omega)
                              have hb5 := hb (k + 5) (by omega)
                              go_wp2_with fail
                              go_quiet (fail)
                              go_wp2_with fail
                              go_quiet (fail)
                              go_wp2
                              all_goals go_ret2
                              all_goals
                                exact ⟨⟨true, false, rfl, fun _ => .inr (.inl ⟨by omega, G2.out, F19.out, rfl⟩)⟩, _, rfl⟩
                            · have z5' : ((v.size : Int) - (k : Int) != 6) = true := by simp; omega
                              go_wp2
                              go_ret2
                              exact out_no0 _ _ _
                          · have z4' : (bt v k != 43) = true := by simpa using z4
                            clear z4
                            by_cases z4 : bt v k = 45
                            · clear z2 z4'
                              by_cases z5 : (k + 6) = v.size
                              · have z5a : (k + 6) ≤ v.size := by omega
                                have z5b : v.size ≤ (k + 6) := by omega
                                have z5' : ((v.size : Int) - (k : Int) != 6) = false := by simp; omega
                                clear z5
                                have i3 : ((k : Int) + 3) < (v.size : Int) := by omega
                                have hb3 := hb (k + 3) (by omega)
                                cases z6 : (bt v (k + 3) != 58)
                                case true =>
                                  go_wp2
                                  go_ret2
                                  exact out_no0 _ _ _
                                go_wp2_with fail
                                refine (digitRun' v _ _ (k + 1) 2 _ hv (by omega) (by omega) (by first | rfl | omega) (by first | rfl | omega)).mono ?_
                                rintro e w' ⟨⟨r, rfl, hr⟩, rfl⟩
                                cases r
                                · clear hr
                                  go_wp2
                                  go_ret2
                                  exact out_no0 _ _ _
                                have D12 := hid (hr rfl).2
                                clear hr
                                go_wp2_with fail
                                refine (digitRun' v _ _ (k + 4) 2 _ hv (by omega) (by omega) (by first | rfl | omega) (by first | rfl | omega)).mono ?_
                                rintro e w' ⟨⟨r, rfl, hr⟩, rfl⟩
                                cases r
                                · clear hr
                                  go_wp2
                                  go_ret2
                                  exact out_no0 _ _ _
                                have D45 := hid (hr rfl).2
                                clear hr
                                have D1 := hid (run2 D12.out).1
                                have D2 := hid (run2 D12.out).2
                                have D4 := hid (run2 D45.out).1
                                have D5 := hid (run2 D45.out).2
                                have b1 : 48 ≤ bt v (k + 1) ∧ bt v (k + 1) ≤ 57 := dig_bd D1.out
                                have b2 : 48 ≤ bt v (k + 2) ∧ bt v (k + 2) ≤ 57 := dig_bd D2.out
                                have b4 : 48 ≤ bt v (k + 4) ∧ bt v (k + 4) ≤ 57 := dig_bd D4.out
                                have b5 : 48 ≤ bt v (k + 5) ∧ bt v (k + 5) ≤ 57 := dig_bd D5.out
                                have i1 : ((k : Int) + 1) < (v.size : Int) := by omega
                                have i2 : ((k : Int) + 2) < (v.size : Int) := by omega
                                have i4 : ((k : Int) + 4) < (v.size : Int) := by omega
                                have i5 : ((k : Int) + 5) < (v.size : Int) := by omega
                                have hb1 := hb (k + 1) (by omega)
                                have hb2 := hb (k + 2) (by omega)
                                have hb4 := hb (k + 4) (by omega)
                                have hb5 := hb (k + 5) (by omega)
                                go_wp2_with fail
                                go_quiet (fail)
                                go_wp2_with fail
                                go_quiet (fail)
                                go_wp2
                                all_goals go_ret2
                                all_goals
                                  exact ⟨⟨true, false, rfl, fun _ => .inr (.inl ⟨by omega, G2.out, F19.out, rfl⟩)⟩, _, rfl⟩
                              · have z5' : ((v.size : Int) - (k : Int) != 6) = true := by simp; omega
                                go_wp2
                                go_ret2
                                exact out_no0 _ _ _
                            · have z4'' : (bt v k != 45) = true := by simpa using z4
                              clear z4
                              go_wp2
                              go_ret2
                              exact out_no0 _ _ _
                        · have Z2 := hid z2
                          by_cases z3 : (k + 1) = v.size
                          · have z3' : (((k : Int) + 1) != (v.size : Int)) = false := by simp; omega
                            have z3a : (k + 1) ≤ v.size := by omega
                            have z3b : v.size ≤ (k + 1) := by omega
                            clear z3
                            go_wp2
                            go_ret2
                            exact ⟨⟨true, false, rfl, fun _ => .inr (.inl ⟨by omega, G2.out, F19.out, rfl⟩)⟩, 0, rfl⟩
                          · have z3' : (((k : Int) + 1) != (v.size : Int)) = true := by simp; omega
                            go_wp2
                            go_ret2
                            exact out_no0 _ _ _
                      · exact absurd hk z1
                    · go_wp2_with fail
                      refine (isDig_yes _ _ f4).mono ?_
                      rintro e w' ⟨rfl, rfl⟩
                      go_wp2
                      go_round
                      case rel => exact ⟨k + 1, by omega, by omega, by go_num⟩
                      case measure => simp [intOf]; omega
                  · have jk : (v.size : Int) ≤ (k : Int) := by omega
                    go_wp2
                    go_ret2
                    exact out_no0 _ _ _
            · have d44 : (bt v 19 == 44) = false := by simpa using f2
              clear f2
              by_cases z1 : 19 < v.size
              · have zj : (19 : Int) < (v.size : Int) := by omega
                have hbk := hb 19 z1
                cases z2 : (bt v 19 == 90)
                · by_cases z4 : bt v 19 = 43
                  · clear z2
                    have N44 : Hid (bt v 19 ≠ 44) := by show bt v 19 ≠ 44; rw [z4]; decide
                    by_cases z5 : 25 = v.size
                    · have z5a : 25 ≤ v.size := by omega
                      have z5b : v.size ≤ 25 := by omega
                      have z5' : ((v.size : Int) - (19 : Int) != 6) = false := by simp; omega
                      clear z5
                      have i3 : (22 : Int) < (v.size : Int) := by omega
                      have hb3 := hb 22 (by omega)
                      cases z6 : (bt v 22 != 58)
                      case true =>
                        go_wp2
                        go_ret2
                        exact out_no0 _ _ _
                      go_wp2_with fail
                      refine (digitRun' v _ _ 20 2 _ hv (by omega) (by omega) (by first | rfl | omega) (by first | rfl | omega)).mono ?_
                      rintro e w' ⟨⟨r, rfl, hr⟩, rfl⟩
                      cases r
                      · clear hr
                        go_wp2
                        go_ret2
                        exact out_no0 _ _ _
                      have D12 := hid (hr rfl).2
                      clear hr
                      go_wp2_with fail
                      refine (digitRun' v _ _ 23 2 _ hv (by omega) (by omega) (by first | rfl | omega) (by first | rfl | omega)).mono ?_
                      rintro e w' ⟨⟨r, rfl, hr⟩, rfl⟩
                      cases r
                      · clear hr
                        go_wp2
                        go_ret2
                        exact out_no0 _ _ _
                      have D45 := hid (hr rfl).2
                      clear hr
                      have D1 := hid (run2 D12.out).1
                      have D2 := hid (run2 D12.out).2
                      have D4 := hid (run2 D45.out).1
                      have D5 := hid (run2 D45.out).2
                      have b1 : 48 ≤ bt v 20 ∧ bt v 20 ≤ 57 := dig_bd D1.out
                      have b2 : 48 ≤ bt v 21 ∧ bt v 21 ≤ 57 := dig_bd D2.out
                      have b4 : 48 ≤ bt v 23 ∧ bt v 23 ≤ 57 := dig_bd D4.out
                      have b5 : 48 ≤ bt v 24 ∧ bt v 24 ≤ 57 := dig_bd D5.out
                      have i1 : (20 : Int) < (v.size : Int) := by omega
                      have i2 : (21 : Int) < (v.size : Int) := by omega
                      have i4 : (23 : Int) < (v.size : Int) := by omega
                      have i5 : (24 : Int) < (v.size : Int) := by omega
                      have hb1 := hb 20 (by omega)
                      have hb2 := hb 21 (by omega)
                      have hb4 := hb 23 (by omega)
                      have hb5 := hb 24 (by omega)
                      go_wp2_with fail
                      go_quiet (fail)
                      go_wp2_with fail
                      go_quiet (fail)
                      go_wp2
                      all_goals go_ret2
                      all_goals
                        refine ⟨⟨true, _, rfl, fun _ => .inr (.inr (.inr ⟨by omega, G2.out, N44.out, by rw [show v.size - 5 = 20 by omega]; exact D1.out, by rw [show v.size - 4 = 21 by omega]; exact D2.out, by rw [show v.size - 2 = 23 by omega]; exact D4.out, by rw [show v.size - 1 = 24 by omega]; exact D5.out, ?_⟩))⟩, _, rfl⟩
                        rw [show v.size - 5 = 20 by omega, show v.size - 4 = 21 by omega, show v.size - 2 = 23 by omega, show v.size - 1 = 24 by omega]
                        rw [Bool.eq_iff_iff]
                        simp
                        omega
                    · have z5' : ((v.size : Int) - (19 : Int) != 6) = true := by simp; omega
                      go_wp2
                      go_ret2
                      exact out_no0 _ _ _
                  · have z4' : (bt v 19 != 43) = true := by simpa using z4
                    clear z4
                    by_cases z4 : bt v 19 = 45
                    · clear z2 z4'
                      have N44 : Hid (bt v 19 ≠ 44) := by show bt v 19 ≠ 44; rw [z4]; decide
                      by_cases z5 : 25 = v.size
                      · have z5a : 25 ≤ v.size := by omega
                        have z5b : v.size ≤ 25 := by omega
                        have z5' : ((v.size : Int) - (19 : Int) != 6) = false := by simp; omega
                        clear z5
                        have i3 : (22 : Int) < (v.size : Int) := by omega
                        have hb3 := hb 22 (by omega)
                        cases z6 : (bt v 22 != 58)
                        case true =>
                          go_wp2
                          go_ret2
                          exact out_no0 _ _ _
                        go_wp2_with fail
                        refine (digitRun' v _ _ 20 2 _ hv (by omega) (by omega) (by first | rfl | omega) (by first | rfl | omega)).mono ?_
                        rintro e w' ⟨⟨r, rfl, hr⟩, rfl⟩
                        cases r
                        · clear hr
                          go_wp2
                          go_ret2
                          exact out_no0 _ _ _
                        have D12 := hid (hr rfl).2
                        clear hr
                        go_wp2_with fail
                        refine (digitRun' v _ _ 23 2 _ hv (by omega) (by omega) (by first | rfl | omega) (by first | rfl | omega)).mono ?_
                        rintro e w' ⟨⟨r, rfl, hr⟩, rfl⟩
                        cases r
                        · clear hr
                          go_wp2
                          go_ret2
                          exact out_no0 _ _ _
                        have D45 := hid (hr rfl).2
                        clear hr
                        have D1 := hid (run2 D12.out).1
                        have D2 := hid (run2 D12.out).2
                        have D4 := hid (run2 D45.out).1
                        have D5 := hid (run2 D45.out).2
                        have b1 : 48 ≤ bt v 20 ∧ bt v 20 ≤ 57 := dig_bd D1.out
                        have b2 : 48 ≤ bt v 21 ∧ bt v 21 ≤ 57 := dig_bd D2.out
                        have b4 : 48 ≤ bt v 23 ∧ bt v 23 ≤ 57 := dig_bd D4.out
                        have b5 : 48 ≤ bt v 24 ∧ bt v 24 ≤ 57 := dig_bd D5.out
                        have i1 : (20 : Int) < (v.size : Int) := by omega
                        have i2 : (21 : Int) < (v.size : Int) := by omega
                        have i4 : (23 : Int) < (v.size : Int) := by omega
                        have i5 : (24 : Int) < (v.size : Int) := by omega
                        have hb1 := hb 20 (by omega)
                        have hb2 := hb 21 (by omega)
                        have hb4 := hb 23 (by omega)
                        have hb5 := hb 24 (by omega)
                        go_wp2_with fail
                        go_quiet (fail)
                        go_wp2_with fail
                        go_quiet (fail)
                        go_wp2
                        all_goals go_ret2
                        all_goals
                          refine ⟨⟨true, _, rfl, fun _ => .inr (.inr (.inr ⟨by omega, G2.out, N44.out, by rw [show v.size - 5 = 20 by omega]; exact D1.out, by rw [show v.size - 4 = 21 by omega]; exact D2.out, by rw [show v.size - 2 = 23 by omega]; exact D4.out, by rw [show v.size - 1 = 24 by omega]; exact D5.out, ?_⟩))⟩, _, rfl⟩
                          rw [show v.size - 5 = 20 by omega, show v.size - 4 = 21 by omega, show v.size - 2 = 23 by omega, show v.size - 1 = 24 by omega]
                          rw [Bool.eq_iff_iff]
                          simp
                          omega
                      · have z5' : ((v.size : Int) - (19 : Int) != 6) = true := by simp; omega
                        go_wp2
                        go_ret2
                        exact out_no0 _ _ _
                    · have z4'' : (bt v 19 != 45) = true := by simpa using z4
                      clear z4
                      go_wp2
                      go_ret2
                      exact out_no0 _ _ _
                · have Z2 := hid z2
                  by_cases z3 : 20 = v.size
                  · exact absurd z3 (by omega)
                  · have z3' : ((20 : Int) != (v.size : Int)) = true := by simp; omega
                    go_wp2
                    go_ret2
                    exact out_no0 _ _ _
              · exact absurd f1 (by omega)
        · have f1j : (v.size : Int) ≤ (20 : Int) := by omega
          by_cases z1 : 19 < v.size
          · have zj : (19 : Int) < (v.size : Int) := by omega
            have hbk := hb 19 z1
            have z3' : ((20 : Int) != (v.size : Int)) = false := by simp; omega
            cases z2 : (bt v 19 == 90)
            · have z5' : ((v.size : Int) - (19 : Int) != 6) = true := by simp; omega
              go_wp2
              all_goals
                go_ret2
                exact out_no0 _ _ _
            · have Z2 := hid z2
              go_wp2
              go_ret2
              have n44 : bt v 19 ≠ 44 := by have := Z2.out; simp at this; omega
              exact ⟨⟨true, true, rfl, fun _ => .inr (.inr (.inl ⟨by omega, G2.out, n44, by rw [show v.size - 1 = 19 by omega]; have := Z2.out; simpa using this, rfl⟩))⟩, 0, rfl⟩
          · have zj : (v.size : Int) ≤ (19 : Int) := by omega
            go_wp2
            go_ret2
            exact out_no0 _ _ _
      · have j1 : (v.size : Int) ≤ (13 : Int) := by omega
        go_wp2
        go_ret2
        exact out_no0 _ _ _
end Go.Proofs.Qxb6603009a.Rfc
