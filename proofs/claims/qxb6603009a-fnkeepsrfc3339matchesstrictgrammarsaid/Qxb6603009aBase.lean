import Derived.Test.Qxb6603009aRows
import Derived.WalkKit
import Derived.WalkSpells
import Derived.WalkLawsBesides
import Derived.Deep.QuietTactic
import Derived.BigQuiet
import Derived.Lib.Strings
namespace Go.Proofs.Qxb6603009a.Rfc
open Go.RowKit

theorem hid {p : Prop} (h : p) : Hid p := h
theorem ret_bool {a b : Bool} (h : a = b) : Ending.returned (.bool a) = .returned (.bool b) := by rw [h]

/-- byte k of v, as a number -/
def bt (v : ByteArray) (k : Nat) : Int := ((v.data.toList.getD k 0).toNat : Int)
theorem bt_eq (v : ByteArray) : ∀ (k : Nat) (h : k < v.size), ((v[k]'h).toNat : Int) = bt v k := by
  intro k h
  unfold bt
  have : v.data.toList[k]? = some (v[k]'h) := by
    rw [List.getElem?_eq_getElem (by simpa using h)]; rfl
  rw [List.getD_eq_getElem?_getD, this]; rfl
theorem bt_bd (v : ByteArray) (k : Nat) : 0 ≤ bt v k ∧ bt v k ≤ 255 := by
  unfold bt
  have := (v.data.toList.getD k 0).toNat_lt
  omega

def dig (x : Int) : Bool := decide (48 ≤ x ∧ x ≤ 57)

theorem isDig (x : Int) (w : World) : Calls Try.prog 8 #[.int .u8 x] w fun e w' => e = .returned (.bool (dig x)) ∧ w = w' := by
  by_cases h1 : 48 ≤ x
  · by_cases h2 : x ≤ 57
    · go_enter Try.func8, Try.ntmps8
      go_wp2
      go_ret
      exact ⟨ret_bool (by simp [dig]; omega), rfl⟩
    · go_enter Try.func8, Try.ntmps8
      go_wp2
      go_ret
      exact ⟨ret_bool (by simp [dig]; omega), rfl⟩
  · go_enter Try.func8, Try.ntmps8
    go_wp2
    go_ret
    exact ⟨ret_bool (by simp [dig]; omega), rfl⟩
theorem isDig_yes (x : Int) (w : World) (h : dig x = true) : Calls Try.prog 8 #[.int .u8 x] w fun e w' => e = .returned (.bool true) ∧ w = w' :=
  (isDig x w).mono fun _ _ ⟨he, hw⟩ => ⟨by rw [he, h], hw⟩
theorem isDig_no (x : Int) (w : World) (h : dig x = false) : Calls Try.prog 8 #[.int .u8 x] w fun e w' => e = .returned (.bool false) ∧ w = w' :=
  (isDig x w).mono fun _ _ ⟨he, hw⟩ => ⟨by rw [he, h], hw⟩

/-- the bytes from a on, c of them, are digits -/
def run (v : ByteArray) (a c : Nat) : Bool := (List.range c).all fun k => dig (bt v (a + k))
theorem run_succ (v : ByteArray) (a c : Nat) : run v a (c + 1) = (run v a c && dig (bt v (a + c))) := by
  unfold run; rw [List.range_succ, List.all_append]; simp

set_option maxHeartbeats 800000 in
theorem digitRun (v : ByteArray) (x y : Int) (a c : Nat) (w : World) (hv : v.size ≤ 1048576) (ha : a ≤ 1048600) (hc : c ≤ 4) (hx : x = a) (hy : y = c) :
    Calls Try.prog 7 #[.string v, .int .i64 x, .int .i64 y] w fun e w' => e = .returned (.bool (decide (a + c ≤ v.size) && run v a c)) ∧ w = w' := by
  subst hx hy
  have hb := bt_eq v
  have h0 : ¬ ((a : Int) < 0) := by omega
  by_cases hs : v.size < a + c
  · have hs' : (v.size : Int) < (a : Int) + (c : Int) := by omega
    go_enter Try.func7, Try.ntmps7
    go_wp2
    go_ret
    exact ⟨ret_bool (by rw [decide_eq_false (by omega)]; rfl), rfl⟩
  · have hs' : (a : Int) + (c : Int) ≤ (v.size : Int) := by omega
    have HD : Hid (decide (a + c ≤ v.size) = true) := decide_eq_true (by omega)
    go_enter Try.func7, Try.ntmps7
    go_wp2
    go_loop [7] (fun i => ∃ k : Nat, k ≤ c ∧ i = .int .i64 k ∧ run v a k = true) (fun i => c - (intOf i).toNat)
    case atStart => exact ⟨0, Nat.zero_le _, rfl, rfl⟩
    case round =>
      obtain ⟨k, hk, rfl, hr⟩ := hrel
      have HR := hid hr
      clear hr
      by_cases hlt : k < c
      · have HS := hid (run_succ v a k)
        have hin : (a : Int) + (k : Int) < (v.size : Int) := by omega
        have hb2 := hb (a + k) (by omega)
        by_cases hd : dig (bt v (a + k)) = true
        · go_wp2_with fail
          refine (isDig_yes _ _ hd).mono ?_
          rintro e w' ⟨rfl, rfl⟩
          go_wp2
          go_round
          case rel => exact ⟨k + 1, by omega, by go_num, by rw [HS.out, HR.out, hd]; rfl⟩
          case measure => simp [intOf]; omega
        · have hd' : dig (bt v (a + k)) = false := by simpa using hd
          have HF : Hid (run v a c = false) := by
            show _ = _
            unfold run
            rw [List.all_eq_false]
            exact ⟨k, by simpa using hlt, by simpa using hd'⟩
          clear hd
          go_wp2_with fail
          refine (isDig_no _ _ hd').mono ?_
          rintro e w' ⟨rfl, rfl⟩
          go_wp2
          go_ret
          exact ⟨ret_bool (by rw [HF.out]; simp), rfl⟩
      · have hkc : k = c := by omega
        subst hkc
        go_wp2
        go_ret
        exact ⟨ret_bool (by rw [HD.out, HR.out]; rfl), rfl⟩

/-- what is known of a text of that shape; s: does it keep to the strict grammar -/
def Good (v : ByteArray) (s : Bool) : Prop :=
  (16 ≤ v.size ∧ dig (bt v 13) = true ∧ s = false) ∨
  (20 ≤ v.size ∧ bt v 13 = 58 ∧ bt v 19 = 44 ∧ s = false) ∨
  (20 ≤ v.size ∧ bt v 13 = 58 ∧ bt v 19 ≠ 44 ∧ bt v (v.size - 1) = 90 ∧ s = true) ∨
  (25 ≤ v.size ∧ bt v 13 = 58 ∧ bt v 19 ≠ 44 ∧ dig (bt v (v.size - 5)) = true ∧ dig (bt v (v.size - 4)) = true ∧ dig (bt v (v.size - 2)) = true ∧ dig (bt v (v.size - 1)) = true ∧
    s = (decide ((bt v (v.size - 5) - 48) * 10 + (bt v (v.size - 4) - 48) ≤ 23) && decide ((bt v (v.size - 2) - 48) * 10 + (bt v (v.size - 1) - 48) ≤ 59)))

theorem ext_toList (v : ByteArray) (a b : Nat) : (v.extract a b).toList = (v.data.toList.drop a).take (b - a) := by
  rw [ByteArray.toList_eq, Lib.extract_data]

def ub (v : ByteArray) (k : Nat) : UInt8 := v.data.toList.getD k 0
theorem bt_ub (v : ByteArray) (k : Nat) : bt v k = ((ub v k).toNat : Int) := rfl

theorem drop_take1 {α : Type} (l : List α) (d : α) (k : Nat) (h : k + 1 ≤ l.length) : (l.drop k).take 1 = [l.getD k d] := by
  rw [List.drop_eq_getElem_cons (by omega), List.take_succ_cons, List.take_zero]
  simp [List.getElem?_eq_getElem (show k < l.length by omega)]
theorem drop_take2 {α : Type} (l : List α) (d : α) (k : Nat) (h : k + 2 ≤ l.length) : (l.drop k).take 2 = [l.getD k d, l.getD (k + 1) d] := by
  rw [List.drop_eq_getElem_cons (by omega), List.take_succ_cons, drop_take1 l d (k + 1) (by omega)]
  simp [List.getElem?_eq_getElem (show k < l.length by omega)]

theorem size_list (v : ByteArray) : v.data.toList.length = v.size := by simp

theorem suf_eq (v : ByteArray) (h : 1 ≤ v.size) : ((v.extract (v.size - 1) v.size).toList == [90]) = (bt v (v.size - 1) == 90) := by
  rw [ext_toList, show v.size - (v.size - 1) = 1 by omega, drop_take1 _ 0 _ (by rw [size_list]; omega)]
  show (([ub v (v.size - 1)] : List UInt8) == [90]) = _
  rw [bt_ub, Bool.eq_iff_iff]
  simp [← UInt8.toNat_inj]
  omega

theorem digit_of (v : ByteArray) (k : Nat) (h : dig (bt v k) = true) : ∃ i : Fin 10, ub v k = UInt8.ofNat (48 + i.val) ∧ bt v k = 48 + (i.val : Int) := by
  have h' : 48 ≤ bt v k ∧ bt v k ≤ 57 := by simpa [dig] using h
  rw [bt_ub] at h' ⊢
  refine ⟨⟨(ub v k).toNat - 48, by omega⟩, ?_, by simp; omega⟩
  apply UInt8.toNat_inj.1
  rw [UInt8.toNat_ofNat']
  have := (ub v k).toNat_lt
  simp
  omega

def le2 (l m : List UInt8) : Bool := Op.bytesLess l m || l == m
theorem le23 : ∀ i j : Fin 10, le2 [UInt8.ofNat (48 + i.val), UInt8.ofNat (48 + j.val)] [50, 51] = decide (i.val * 10 + j.val ≤ 23) := by decide +kernel
theorem le59 : ∀ i j : Fin 10, le2 [UInt8.ofNat (48 + i.val), UInt8.ofNat (48 + j.val)] [53, 57] = decide (i.val * 10 + j.val ≤ 59) := by decide +kernel

theorem hour_eq (v : ByteArray) (h : 25 ≤ v.size) (h1 : dig (bt v (v.size - 5)) = true) (h2 : dig (bt v (v.size - 4)) = true) :
    (Op.bytesLess ((v.extract (v.size - 5) v.size).extract 0 2).toList [50, 51] || ((v.extract (v.size - 5) v.size).extract 0 2).toList == [50, 51]) = decide ((bt v (v.size - 5) - 48) * 10 + (bt v (v.size - 4) - 48) ≤ 23) := by
  have e : ((v.extract (v.size - 5) v.size).extract 0 2).toList = [ub v (v.size - 5), ub v (v.size - 4)] := by
    rw [ext_toList, Lib.extract_data, List.drop_zero, List.take_take, show min (2 - 0) (v.size - (v.size - 5)) = 2 by omega, drop_take2 _ 0 _ (by rw [size_list]; omega), show v.size - 5 + 1 = v.size - 4 by omega]
    rfl
  obtain ⟨i, ei, bi⟩ := digit_of v _ h1
  obtain ⟨j, ej, bj⟩ := digit_of v _ h2
  rw [e, ei, ej, bi, bj]
  refine (le23 i j).trans ?_
  rw [Bool.eq_iff_iff]; simp; omega

theorem min_eq (v : ByteArray) (h : 25 ≤ v.size) (h1 : dig (bt v (v.size - 2)) = true) (h2 : dig (bt v (v.size - 1)) = true) :
    (Op.bytesLess ((v.extract (v.size - 5) v.size).extract 3 (v.size - (v.size - 5))).toList [53, 57] || ((v.extract (v.size - 5) v.size).extract 3 (v.size - (v.size - 5))).toList == [53, 57]) = decide ((bt v (v.size - 2) - 48) * 10 + (bt v (v.size - 1) - 48) ≤ 59) := by
  have e : ((v.extract (v.size - 5) v.size).extract 3 (v.size - (v.size - 5))).toList = [ub v (v.size - 2), ub v (v.size - 1)] := by
    rw [ext_toList, Lib.extract_data, show v.size - (v.size - 5) = 5 by omega, List.drop_take, List.take_take, List.drop_drop, show min (5 - 3) (5 - 3) = 2 by omega, drop_take2 _ 0 _ (by rw [size_list]; omega), show v.size - 5 + 3 = v.size - 2 by omega, show v.size - 2 + 1 = v.size - 1 by omega]
    rfl
  obtain ⟨i, ei, bi⟩ := digit_of v _ h1
  obtain ⟨j, ej, bj⟩ := digit_of v _ h2
  rw [e, ei, ej, bi, bj]
  refine (le59 i j).trans ?_
  rw [Bool.eq_iff_iff]; simp; omega

set_option maxHeartbeats 800000 in
theorem hasSuffix (v : ByteArray) (w : World) (h : 1 ≤ v.size) (hv : v.size ≤ 1048576) :
    Calls Try.prog 10 #[.string v, .string ⟨#[90]⟩] w fun e w' => e = .returned (.bool (bt v (v.size - 1) == 90)) ∧ w = w' := by
  have h1 : (1 : Int) ≤ (v.size : Int) := by omega
  go_enter Try.func10, Try.ntmps10
  go_wp2
  go_ret
  exact ⟨ret_bool (suf_eq v h), rfl⟩

set_option maxHeartbeats 1600000 in
theorem keeps (v : ByteArray) (s : Bool) (w : World) (hv : v.size ≤ 1048576) (h : Good v s) :
    Calls Try.prog 9 #[.string v] w fun e w' => e = .returned (.bool s) ∧ w = w' := by
  have hb := bt_eq v
  rcases h with ⟨h, hd, rfl⟩ | ⟨h, h13, h19, rfl⟩ | ⟨h, h13, h19, hz, rfl⟩ | ⟨h, h13, h19, d1, d2, d3, d4, hs⟩
  · have h1 : (16 : Int) ≤ (v.size : Int) := by omega
    have hne : ¬ bt v 13 = 58 := by
      intro e
      rw [e] at hd
      simp [dig] at hd
    have hne' : (bt v 13 != 58) = true := by simpa using hne
    clear hd hne
    go_enter Try.func9, Try.ntmps9
    go_wp2
    go_ret
    exact ⟨rfl, rfl⟩
  · have h1 : (20 : Int) ≤ (v.size : Int) := by omega
    go_enter Try.func9, Try.ntmps9
    go_wp2
    go_ret
    exact ⟨rfl, rfl⟩
  · have h1 : (20 : Int) ≤ (v.size : Int) := by omega
    have h19' : (bt v 19 == 44) = false := by simpa using h19
    have H := hasSuffix v w (by omega) hv
    rw [hz] at H
    clear h19
    go_enter Try.func9, Try.ntmps9
    go_wp2_with (go_at_call 10; refine H.mono ?_; rintro e w' ⟨rfl, rfl⟩)
    go_ret
    exact ⟨rfl, rfl⟩
  · have h1 : (25 : Int) ≤ (v.size : Int) := by omega
    have h19' : (bt v 19 == 44) = false := by simpa using h19
    have HH := hid (hour_eq v h d1 d2)
    have HM := hid (min_eq v h d3 d4)
    have HS := hid hs
    have hz : (bt v (v.size - 1) == 90) = false := by
      have : 48 ≤ bt v (v.size - 1) ∧ bt v (v.size - 1) ≤ 57 := by simpa [dig] using d4
      simp; omega
    have H := hasSuffix v w (by omega) hv
    rw [hz] at H
    clear h19 hs d1 d2 d3 d4 hz
    go_enter Try.func9, Try.ntmps9
    go_wp2_with (go_at_call 10; refine H.mono ?_; rintro e w' ⟨rfl, rfl⟩)
    all_goals
      go_ret
      refine ⟨ret_bool ?_, rfl⟩
      rw [HS.out, ← HH.out, ← HM.out]
    rename_i hh
    have e : (Op.bytesLess ((v.extract (v.size - 5) v.size).extract 0 2).toList [50, 51] || ((v.extract (v.size - 5) v.size).extract 0 2).toList == [50, 51]) = false := by simpa using hh
    rw [e]; rfl
end Go.Proofs.Qxb6603009a.Rfc
