import Derived.Test.Qxb6603046aRows
import Derived.WalkKit
import Derived.WalkSpells
import Derived.WalkLawsBesides
import Derived.Below
import Derived.Laws.BitsAllLaws
namespace Go.Proofs.Qxb6603046a.Hx
open Go.RowKit

theorem hid {p : Prop} (h : p) : Hid p := h
theorem ret_bool {a b : Bool} (h : a = b) : Ending.returned (.bool a) = .returned (.bool b) := by rw [h]
theorem ret_int {k : IntKind} {a b : Int} (h : a = b) : Ending.returned (.int k a) = .returned (.int k b) := by rw [h]

def hx (c : Int) : Int := if 48 ≤ c ∧ c ≤ 57 then c - 48 else if 97 ≤ c ∧ c ≤ 102 then c - 87 else if 65 ≤ c ∧ c ≤ 70 then c - 55 else -1
theorem hx_lt (c : Int) : hx c < 16 := by unfold hx; split <;> (try split) <;> (try split) <;> omega
theorem hx_ge (c : Int) : -1 ≤ hx c := by unfold hx; split <;> (try split) <;> (try split) <;> omega

theorem or20 (c : Int) (h0 : 0 ≤ c) (h1 : c < 256) : bits .or .u8 c 32 = if c / 32 % 2 = 1 then c else c + 32 := by
  obtain ⟨n, rfl⟩ : ∃ n : Nat, c = (n : Int) := ⟨c.toNat, by omega⟩
  have hn : n < 256 := by omega
  have key : ∀ m : Fin 256, (m.val ||| 32) = if m.val / 32 % 2 = 1 then m.val else m.val + 32 := by decide +kernel
  have k := key ⟨n, hn⟩
  have e := u8_or_nat n 32 hn (by decide)
  simp only at k
  rw [show ((32 : Int)) = ((32 : Nat) : Int) from rfl, e, k]
  split
  · rw [if_pos (by omega)]
  · rw [if_neg (by omega)]; omega

theorem zz7 (a : Option Addr) (n c : Nat) (w : World) (hn : n ≤ maxLen) :
    Calls Try.prog 7 #[.slice a n c] w fun e w' => e = .returned (.bool (decide (n ≤ 1048576))) ∧ w = w' := by
  unfold maxLen at hn
  by_cases h : n ≤ 1048576
  · go_enter Try.func7, Try.ntmps7
    go_wp2
    go_ret
    exact ⟨ret_bool (by simpa using h), rfl⟩
  · go_enter Try.func7, Try.ntmps7
    go_wp2
    go_ret
    exact ⟨ret_bool (by simpa using h), rfl⟩

theorem isDigit (c : Int) (w : World) : Calls Try.prog 24 #[.int .u8 c] w fun e w' => e = .returned (.bool (decide (48 ≤ c ∧ c ≤ 57))) ∧ w = w' := by
  by_cases h1 : 48 ≤ c <;> by_cases h2 : c ≤ 57
  all_goals
    go_enter Try.func24, Try.ntmps24
    go_wp2
    go_ret
    exact ⟨ret_bool (by simp [h1, h2]), rfl⟩

theorem hexValue (c : Int) (w : World) (h0 : 0 ≤ c) (h1 : c < 256) : Calls Try.prog 9 #[.int .u8 c] w fun e w' => e = .returned (.int .i64 (hx c)) ∧ w = w' := by
  have ho := or20 c h0 h1
  by_cases hd : 48 ≤ c ∧ c ≤ 57
  · obtain ⟨d1, d2⟩ := hd
    clear ho
    go_enter Try.func9, Try.ntmps9
    go_wp2
    go_ret
    exact ⟨ret_int (by unfold hx; rw [if_pos ⟨d1, d2⟩]), rfl⟩
  · obtain ⟨l, hl⟩ : ∃ l, l = bits .or .u8 c 32 := ⟨_, rfl⟩
    rw [← hl] at ho
    by_cases hal : 97 ≤ l ∧ l ≤ 102
    · obtain ⟨a1, a2⟩ := hal
      have HX : Hid (hx c = l - 87) := by
        show hx c = l - 87
        unfold hx
        rw [if_neg hd]
        split at ho
        · rw [if_pos (by omega)]; omega
        · rw [if_neg (by omega), if_pos (by omega)]; omega
      clear ho
      have hl' := hl.symm
      clear hl
      rcases Int.lt_or_le c 48 with h48 | h48
      · go_enter Try.func9, Try.ntmps9
        go_wp2
        go_ret
        exact ⟨ret_int (by rw [HX.out]; omega), rfl⟩
      · have h57 : ¬ c ≤ 57 := by omega
        go_enter Try.func9, Try.ntmps9
        go_wp2
        go_ret
        exact ⟨ret_int (by rw [HX.out]; omega), rfl⟩
    · have HX : Hid (hx c = -1) := by
        show hx c = -1
        unfold hx
        rw [if_neg hd]
        split at ho
        · rw [if_neg (by omega), if_neg (by omega)]
        · rw [if_neg (by omega), if_neg (by omega)]
      clear ho
      have hl' := hl.symm
      clear hl
      rcases Int.lt_or_le c 48 with h48 | h48 <;> rcases Int.lt_or_le l 97 with h97 | h97
      · go_enter Try.func9, Try.ntmps9
        go_wp2
        go_ret
        exact ⟨ret_int HX.out.symm, rfl⟩
      · have h102 : ¬ l ≤ 102 := by omega
        go_enter Try.func9, Try.ntmps9
        go_wp2
        go_ret
        exact ⟨ret_int HX.out.symm, rfl⟩
      · have h57 : ¬ c ≤ 57 := by omega
        go_enter Try.func9, Try.ntmps9
        go_wp2
        go_ret
        exact ⟨ret_int HX.out.symm, rfl⟩
      · have h57 : ¬ c ≤ 57 := by omega
        have h102 : ¬ l ≤ 102 := by omega
        go_enter Try.func9, Try.ntmps9
        go_wp2
        go_ret
        exact ⟨ret_int HX.out.symm, rfl⟩

/-- a slice of bytes as a list of numbers -/
def Rd (w : World) (a : Option Addr) (n : Nat) (zs : List Int) : Prop :=
  zs.length = n ∧ (a = none → n = 0) ∧ (0 < n → ∃ b off, a = some ⟨b, off, none⟩ ∧ ∀ i, i < n → w.cell? ⟨b, off + i, none⟩ = some (.int .u8 (zs.getD i 0)))
theorem take_snoc_int (zs : List Int) (k : Nat) (h : k < zs.length) : zs.take (k + 1) = zs.take k ++ [zs.getD k 0] := by
  rw [List.take_succ_eq_append_getElem h]; simp [h]

/-- the number that a row of digits stands for; the length of the row's first stretch of digits -/
def val (l : List Int) : Int := l.foldl (fun v c => 16 * v + hx c) 0
theorem val_snoc (l : List Int) (c : Int) : val (l ++ [c]) = 16 * val l + hx c := by unfold val; rw [List.foldl_append]; rfl
def run : List Int → Nat
  | [] => 0
  | c :: l => if 0 ≤ hx c then run l + 1 else 0
theorem run_le : ∀ l, run l ≤ l.length
  | [] => Nat.le_refl _
  | c :: l => by
    have := run_le l
    unfold run
    split <;> simp <;> omega
theorem run_stop : ∀ (l : List Int) (k : Nat), k < l.length → (∀ j, j < k → 0 ≤ hx (l.getD j 0)) → hx (l.getD k 0) < 0 → run l = k
  | [], _, h, _, _ => by simp at h
  | c :: l, 0, _, _, h3 => by
    unfold run
    rw [if_neg (by simpa using h3)]
  | c :: l, k + 1, h1, h2, h3 => by
    have h0 := h2 0 (by omega)
    unfold run
    rw [if_pos (by simpa using h0), run_stop l k (by simpa using h1) (fun j hj => by simpa using h2 (j + 1) (by omega)) (by simpa using h3)]
theorem run_all : ∀ (l : List Int), (∀ j, j < l.length → 0 ≤ hx (l.getD j 0)) → run l = l.length
  | [], _ => rfl
  | c :: l, h2 => by
    have h0 := h2 0 (by simp)
    unfold run
    rw [if_pos (by simpa using h0), run_all l (fun j hj => by simpa using h2 (j + 1) (by simpa using hj))]
    rfl

theorem wrap_eq (a : Int) : IntKind.i32.wrap a = if 2147483648 ≤ a % 4294967296 then a % 4294967296 - 4294967296 else a % 4294967296 := by
  simp [IntKind.wrap, IntKind.bits, IntKind.signed]
theorem wrap_congr {a b : Int} (h : a % 4294967296 = b % 4294967296) : IntKind.i32.wrap a = IntKind.i32.wrap b := by
  rw [wrap_eq, wrap_eq, h]
theorem wrap_mod (a : Int) : IntKind.i32.wrap a % 4294967296 = a % 4294967296 := by
  rw [wrap_eq]
  split <;> omega
theorem or16 (V d : Int) (h0 : 0 ≤ d) (h1 : d < 16) : bits .or .i32 (IntKind.i32.wrap (IntKind.i32.wrap V * 16)) d = IntKind.i32.wrap (16 * V + d) := by
  obtain ⟨m, rfl⟩ : ∃ m : Nat, d = (m : Int) := ⟨d.toNat, by omega⟩
  unfold bits
  refine wrap_congr ?_
  have e1 : IntKind.i32.wrap (IntKind.i32.wrap V * 16) % 4294967296 = (V * 16) % 4294967296 := by
    rw [wrap_mod, Int.mul_emod, wrap_mod, ← Int.mul_emod]
  generalize IntKind.i32.wrap (IntKind.i32.wrap V * 16) = X at e1
  show (((BitVec.ofInt 32 X ||| BitVec.ofInt 32 (m : Int)).toNat : Nat) : Int) % 4294967296 = _
  rw [BitVec.toNat_or, BitVec.toNat_ofInt, BitVec.toNat_ofInt]
  rw [show ((2 ^ 32 : Nat) : Int) = 4294967296 from rfl, e1]
  have e2 : ((m : Int) % 4294967296).toNat = m := by omega
  rw [e2, nat_join4 _ _ (by omega) (by omega)]
  omega

set_option maxHeartbeats 1600000 in
theorem hexDigits (b off n c : Nat) (zs : List Int) (w : World) (hn : n ≤ 2097152) (hz : zs.length = n) (hb : ∀ y ∈ zs, 0 ≤ y ∧ y < 256)
    (hcell : ∀ i, i < n → w.cell? ⟨b, off + i, none⟩ = some (.int .u8 (zs.getD i 0))) :
    Calls Try.prog 20 #[.slice (some ⟨b, off, none⟩) n c] w fun e w' => e = .returned (.tuple #[.int .i32 (IntKind.i32.wrap (val (zs.take (run zs)))), .int .i64 (run zs : Int)]) ∧ w = w' := by
  have HZ := hid hz
  have HB := hid hb
  have HC := hid hcell
  clear hz hb hcell
  go_enter Try.func20, Try.ntmps20
  go_wp2
  go_loop [4, 9] (fun v i => ∃ (k : Nat) (x : Int), k ≤ n ∧ i = .int .i64 (k : Int) ∧ v = .int .i32 x ∧ x = IntKind.i32.wrap (val (zs.take k)) ∧ ∀ j, j < k → 0 ≤ hx (zs.getD j 0)) (fun _ i => n - (intOf i).toNat)
  case atStart => exact ⟨0, 0, Nat.zero_le _, rfl, rfl, rfl, fun j hj => absurd hj (Nat.not_lt_zero _)⟩
  case round =>
    obtain ⟨k, x, hk, rfl, rfl, hxv, hall⟩ := hrel
    have HXV := hid hxv
    have HALL := hid hall
    clear hxv hall
    by_cases hlt : k < n
    · obtain ⟨y, hy⟩ : ∃ y, y = zs.getD k 0 := ⟨_, rfl⟩
      have c1 : w.cell? ⟨b, off + k, none⟩ = some (.int .u8 y) := by rw [hy]; exact HC.out k hlt
      obtain ⟨y0, y1⟩ : 0 ≤ y ∧ y < 256 := by
        rw [hy, List.getD_eq_getElem?_getD, List.getElem?_eq_getElem (by rw [HZ.out]; exact hlt)]
        exact HB.out _ (List.getElem_mem _)
      have HY := hid hy
      clear hy
      have j0 : (0 : Int) ≤ (k : Int) := by omega
      have j1 : (k : Int) < (n : Int) := by omega
      have next : Hid (∀ d : Int, hx y = d → 0 ≤ d → bits .or .i32 (RowKit.wrap32 (x * 16)) d = IntKind.i32.wrap (val (zs.take (k + 1))) ∧ ∀ j, j < k + 1 → 0 ≤ hx (zs.getD j 0)) := by
        intro d hd h0
        refine ⟨?_, fun j hj => ?_⟩
        · rw [take_snoc_int zs k (by rw [HZ.out]; exact hlt), val_snoc, ← HY.out, hd, HXV.out, show ∀ z, RowKit.wrap32 z = IntKind.i32.wrap z from fun z => (IntWalk.i32_left z).symm]
          exact or16 _ d h0 (by rw [← hd]; exact hx_lt y)
        · by_cases e : j = k
          · rw [e, ← HY.out, hd]; exact h0
          · exact HALL.out j (by omega)
      by_cases hd : 48 ≤ y ∧ y ≤ 57
      · have hdd := decide_eq_true hd
        have HX : Hid (hx y = y - 48) := by show hx y = y - 48; unfold hx; rw [if_pos hd]
        obtain ⟨d1, d2⟩ := hd
        go_wp2_with (first | (go_at_call 24; refine (isDigit y _).mono ?_; rintro e w1 ⟨rfl, rfl⟩) | fail)
        go_round
        case rel =>
          refine ⟨k + 1, _, by omega, by go_num, rfl, (next.out (y - 48) HX.out (by omega)).1, (next.out (y - 48) HX.out (by omega)).2⟩
        case measure => simp [intOf]; omega
      · have hdd := decide_eq_false hd
        by_cases hl : 97 ≤ y ∧ y ≤ 102
        · have HX : Hid (hx y = y - 87) := by show hx y = y - 87; unfold hx; rw [if_neg hd, if_pos hl]
          obtain ⟨d1, d2⟩ := hl
          clear hd
          have nx := next.out (y - 87) HX.out (by omega)
          have NX := hid nx
          clear nx
          go_wp2_with (first | (go_at_call 24; refine (isDigit y _).mono ?_; rintro e w1 ⟨rfl, rfl⟩) | fail)
          go_round
          case rel =>
            refine ⟨k + 1, _, by omega, by go_num, rfl, ?_, NX.out.2⟩
            rw [← NX.out.1]
            congr 1
            omega
          case measure => simp [intOf]; omega
        · by_cases hu : 65 ≤ y ∧ y ≤ 70
          · have HX : Hid (hx y = y - 55) := by show hx y = y - 55; unfold hx; rw [if_neg hd, if_neg hl, if_pos hu]
            obtain ⟨d1, d2⟩ := hu
            have d3 : ¬ 97 ≤ y := by omega
            clear hd hl
            have nx := next.out (y - 55) HX.out (by omega)
            have NX := hid nx
            clear nx
            go_wp2_with (first | (go_at_call 24; refine (isDigit y _).mono ?_; rintro e w1 ⟨rfl, rfl⟩) | fail)
            go_round
            case rel =>
              refine ⟨k + 1, _, by omega, by go_num, rfl, ?_, NX.out.2⟩
              rw [← NX.out.1]
              congr 1
              omega
            case measure => simp [intOf]; omega
          · have HX : Hid (hx y = -1) := by show hx y = -1; unfold hx; rw [if_neg hd, if_neg hl, if_neg hu]
            have HR : Hid (run zs = k) := run_stop zs k (by rw [HZ.out]; exact hlt) HALL.out (by rw [← HY.out, HX.out]; omega)
            have fin : Hid ((.tuple #[.int .i32 x, .int .i64 (k : Int)] : Value) = .tuple #[.int .i32 (IntKind.i32.wrap (val (zs.take (run zs)))), .int .i64 (run zs : Int)]) := by
              rw [HR.out, HXV.out]; exact rfl
            have cases4 : (y < 65 ∨ (70 < y ∧ y < 97)) ∨ 102 < y := by omega
            clear hd hl hu
            rcases cases4 with (h | ⟨h, h'⟩) | h
            · have e1 : ¬ 97 ≤ y := by omega
              have e2 : ¬ 65 ≤ y := by omega
              go_wp2_with (first | (go_at_call 24; refine (isDigit y _).mono ?_; rintro e w1 ⟨rfl, rfl⟩) | fail)
              go_ret2
              exact ⟨congrArg Ending.returned fin.out, rfl⟩
            · have e1 : ¬ 97 ≤ y := by omega
              have e2 : 65 ≤ y := by omega
              have e3 : ¬ y ≤ 70 := by omega
              go_wp2_with (first | (go_at_call 24; refine (isDigit y _).mono ?_; rintro e w1 ⟨rfl, rfl⟩) | fail)
              go_ret2
              exact ⟨congrArg Ending.returned fin.out, rfl⟩
            · have e1 : 97 ≤ y := by omega
              have e2 : ¬ y ≤ 102 := by omega
              have e3 : 65 ≤ y := by omega
              have e4 : ¬ y ≤ 70 := by omega
              go_wp2_with (first | (go_at_call 24; refine (isDigit y _).mono ?_; rintro e w1 ⟨rfl, rfl⟩) | fail)
              go_ret2
              exact ⟨congrArg Ending.returned fin.out, rfl⟩
    · have hkn : k = n := by omega
      have HR : Hid (run zs = k) := (run_all zs (fun j hj => HALL.out j (by rw [hkn, ← HZ.out]; exact hj))).trans (by rw [hkn, HZ.out])
      have fin : Hid ((.tuple #[.int .i32 x, .int .i64 (k : Int)] : Value) = .tuple #[.int .i32 (IntKind.i32.wrap (val (zs.take (run zs)))), .int .i64 (run zs : Int)]) := by
        rw [HR.out, HXV.out]; exact rfl
      clear HR
      subst hkn
      go_wp2
      go_ret2
      exact ⟨congrArg Ending.returned fin.out, rfl⟩

set_option maxHeartbeats 1600000 in
theorem hexDigits0 (a : Option Addr) (c : Nat) (w : World) :
    Calls Try.prog 20 #[.slice a 0 c] w fun e w' => e = .returned (.tuple #[.int .i32 0, .int .i64 0]) ∧ w = w' := by
  go_enter Try.func20, Try.ntmps20
  go_wp2
  go_loop [4, 9] (fun v i => v = .int .i32 0 ∧ i = .int .i64 0) (fun _ _ => 0)
  case atStart => exact ⟨rfl, rfl⟩
  case round =>
    obtain ⟨rfl, rfl⟩ := hrel
    go_wp2
    go_ret2
    exact ⟨rfl, rfl⟩

theorem hexAny (a : Option Addr) (n c : Nat) (zs : List Int) (w : World) (hn : n ≤ 2097152) (hr : Rd w a n zs) (hb : ∀ y ∈ zs, 0 ≤ y ∧ y < 256) :
    Calls Try.prog 20 #[.slice a n c] w fun e w' => e = .returned (.tuple #[.int .i32 (IntKind.i32.wrap (val (zs.take (run zs)))), .int .i64 (run zs : Int)]) ∧ w = w' := by
  obtain ⟨hz, _, h⟩ := hr
  by_cases h0 : n = 0
  · subst h0
    have e : zs = [] := List.eq_nil_of_length_eq_zero hz
    subst e
    exact hexDigits0 a c w
  · obtain ⟨b, off, rfl, hc⟩ := h (by omega)
    exact hexDigits b off n c zs w hn hz hb hc

theorem zzHex (a : Option Addr) (n c : Nat) (zs : List Int) (w : World) (hn : n ≤ 2097152) (hr : Rd w a n zs) (hb : ∀ y ∈ zs, 0 ≤ y ∧ y < 256) :
    Calls Try.prog 10 #[.slice a n c] w fun e w' => e = .returned (.tuple #[.int .i32 (IntKind.i32.wrap (val (zs.take (run zs)))), .int .i64 (run zs : Int)]) ∧ w = w' := by
  have H := hid (hexAny a n c zs w hn hr hb)
  clear hr hb
  generalize IntKind.i32.wrap (val (zs.take (run zs))) = x at H ⊢
  generalize (run zs : Int) = y at H ⊢
  go_enter Try.func10, Try.ntmps10
  go_wp2_with fail
  refine H.out.mono ?_
  rintro e w1 ⟨rfl, rfl⟩
  go_wp2
  go_ret2
  exact ⟨rfl, rfl⟩
end Go.Proofs.Qxb6603046a.Hx
