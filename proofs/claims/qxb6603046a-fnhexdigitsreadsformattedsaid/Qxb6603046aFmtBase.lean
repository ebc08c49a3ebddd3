import Derived.Test.Qxb6603046aHexLaw
namespace Go.Proofs.Qxb6603046a.Hx
open Go.RowKit

def hc (d : Int) (up : Bool) : Int := if d < 10 then 48 + d else if up then 55 + d else 87 + d
theorem hx_hc (d : Int) (up : Bool) (h0 : 0 ≤ d) (h1 : d < 16) : hx (hc d up) = d := by
  unfold hc hx
  cases up <;> by_cases h : d < 10
  · rw [if_pos h, if_pos (by omega)]; omega
  · rw [if_neg h]; simp only [Bool.false_eq_true, if_false]
    rw [if_neg (by omega), if_pos (by omega)]; omega
  · rw [if_pos h, if_pos (by omega)]; omega
  · rw [if_neg h]; simp only [if_true]
    rw [if_neg (by omega), if_neg (by omega), if_pos (by omega)]; omega
theorem hc_byte (d : Int) (up : Bool) (h0 : 0 ≤ d) (h1 : d < 16) : 0 ≤ hc d up ∧ hc d up < 256 := by
  unfold hc
  split
  · omega
  · split <;> omega

theorem zz11 (v : Int) (up : Bool) (z : Int) (a : Option Addr) (n c : Nat) (w : World) (hn : n ≤ maxLen) :
    Calls Try.prog 11 #[.int .u32 v, .bool up, .int .i64 z, .slice a n c] w fun e w' => e = .returned (.bool (decide (n ≤ 1048576))) ∧ w = w' := by
  unfold maxLen at hn
  by_cases h : n ≤ 1048576
  · go_enter Try.func11, Try.ntmps11
    go_wp2
    go_ret
    exact ⟨ret_bool (by simpa using h), rfl⟩
  · go_enter Try.func11, Try.ntmps11
    go_wp2
    go_ret
    exact ⟨ret_bool (by simpa using h), rfl⟩

theorem hexChar (d : Int) (up : Bool) (w : World) (h0 : 0 ≤ d) (h1 : d < 16) : Calls Try.prog 12 #[.int .u8 d, .bool up] w fun e w' => e = .returned (.int .u8 (hc d up)) ∧ w = w' := by
  cases up <;> by_cases h : d < 10
  all_goals
    go_enter Try.func12, Try.ntmps12
    go_wp2
    go_ret
    exact ⟨ret_int (by unfold hc; simp [h] <;> omega), rfl⟩

/-- a growing row of bytes: block F, length k, capacity C -/
def Buf (w : World) (F k C : Nat) (l : List Int) : Prop := w.ownsRow 0 5 1 (.slice (some ⟨F, 0, none⟩) k C) k (l.map (Value.int .u8))
theorem Buf.len {w : World} {F k C : Nat} {l : List Int} (h : Buf w F k C l) : l.length = k := by have := h.1; simpa using this
theorem Buf.cell {w : World} {F k C : Nat} {l : List Int} (h : Buf w F k C l) {i : Nat} (hi : i < k) : w.cell? ⟨F, i, none⟩ = some (.int .u8 (l.getD i 0)) := by
  rw [World.ownsRow.cellAt h i (by omega)]
  have := h.len
  simp [List.getElem?_eq_getElem (show i < l.length by omega)]
theorem Buf.lt {w : World} {F k C : Nat} {l : List Int} (h : Buf w F k C l) : F < w.heap.size := (World.ownsRow.lt h F rfl).2
theorem Buf.rd {w : World} {F k C : Nat} {l : List Int} (h : Buf w F k C l) : Rd w (some ⟨F, 0, none⟩) k l :=
  ⟨h.len, fun h' => by simp at h', fun _ => ⟨F, 0, rfl, fun i hi => by rw [Nat.zero_add]; exact h.cell hi⟩⟩

/-- the digits from the highest -/
def ds (v : Int) (up : Bool) (d : Nat) (i : Nat) : List Int := (List.range i).map fun j => hc (v / 16 ^ (d - 1 - j) % 16) up
theorem ds_snoc (v : Int) (up : Bool) (d i : Nat) : ds v up d (i + 1) = ds v up d i ++ [hc (v / 16 ^ (d - 1 - i) % 16) up] := by
  unfold ds; rw [List.range_succ, List.map_append]; rfl
theorem ds_len (v : Int) (up : Bool) (d i : Nat) : (ds v up d i).length = i := by simp [ds]
theorem mod16 (x : Int) : 0 ≤ x % 16 ∧ x % 16 < 16 := by omega
theorem ds_byte (v : Int) (up : Bool) (d i : Nat) : ∀ y ∈ ds v up d i, (0 ≤ y ∧ y < 256) ∧ 0 ≤ hx y := by
  intro y hy
  unfold ds at hy
  rw [List.mem_map] at hy
  obtain ⟨j, _, rfl⟩ := hy
  obtain ⟨m0, m1⟩ := mod16 (v / 16 ^ (d - 1 - j))
  exact ⟨hc_byte _ up m0 m1, by rw [hx_hc _ up m0 m1]; exact m0⟩

theorem val_append (l m : List Int) : val (l ++ m) = m.foldl (fun v c => 16 * v + hx c) (val l) := by unfold val; rw [List.foldl_append]
theorem val_zeros (Z : Nat) : val (List.replicate Z 48) = 0 := by
  induction Z with
  | zero => rfl
  | succ Z ih => rw [List.replicate_succ', val_snoc, ih]; rfl
theorem val_ds (v : Int) (up : Bool) (d : Nat) (Z : Nat) (h0 : v / 16 ^ d = 0) : ∀ i, i ≤ d → val (List.replicate Z 48 ++ ds v up d i) = v / 16 ^ (d - i)
  | 0, _ => by simp [ds, val_zeros, h0]
  | i + 1, h => by
    obtain ⟨m0, m1⟩ := mod16 (v / 16 ^ (d - 1 - i))
    rw [ds_snoc, ← List.append_assoc, val_snoc, val_ds v up d Z h0 i (by omega), hx_hc _ up m0 m1]
    rw [show d - i = (d - 1 - i) + 1 by omega, show d - (i + 1) = d - 1 - i by omega, Int.pow_succ, ← Int.ediv_ediv_of_nonneg (by exact Int.pow_nonneg (by decide))]
    omega
theorem val_fmt (v : Int) (up : Bool) (d : Nat) (Z : Nat) (h0 : v / 16 ^ d = 0) : val (List.replicate Z 48 ++ ds v up d d) = v := by
  rw [val_ds v up d Z h0 d (Nat.le_refl _), Nat.sub_self]; simp
theorem run_append (l m : List Int) (hl : ∀ y ∈ l, 0 ≤ hx y) (hm : ∀ y, m.head? = some y → hx y < 0) : run (l ++ m) = l.length := by
  induction l with
  | nil =>
    cases m with
    | nil => rfl
    | cons y m =>
      have := hm y rfl
      show run (y :: m) = 0
      unfold run
      rw [if_neg (by omega)]
  | cons x l ih =>
    show run (x :: (l ++ m)) = _
    unfold run
    rw [if_pos (hl x (by simp)), ih (fun y hy => hl y (by simp [hy]))]
    rfl
end Go.Proofs.Qxb6603046a.Hx
