import Derived.Test.Qxb6603046aHexBase
import Derived.Deep.QuietTactic
namespace Go.Proofs.Qxb6603046a.Hx
open Go.RowKit

theorem Try.info5 : (Try.prog.info? 5).map (fun i => (i.zero, i.size, i.bytes)) = some (some (.int .u8 0), 1, 1) := by kernel_rfl
theorem lt_of {W : World} {L : Nat} {o : Obj} (h : W.heap[L]? = some o) : L < W.heap.size := (Array.getElem?_eq_some_iff.1 h).1
theorem gt {w a b : World} {row : Option Nat} (h1 : w.grownBy a none) (h2 : a.grownBy b row) : w.grownBy b row :=
  ⟨h2.os.trans h1.os, h2.tape.trans h1.tape, h2.output.trans h1.output, Nat.le_trans h1.size h2.size, fun k hk hne => (h2.block k (Nat.lt_of_lt_of_le hk h1.size) hne).trans (h1.block k hk (by simp))⟩
theorem gset {w a : World} {row : Option Nat} (h : w.grownBy a row) {p : Addr} (hp : w.heap.size ≤ p.block) (u : Value) : w.grownBy (a.setCell p u) row := by
  refine ⟨h.os, h.tape, h.output, by have := h.size; simpa [World.setCell] using this, fun k hk hne => ?_⟩
  rw [Below.heap_setCell _ _ _ _ (show k ≠ p.block by omega)]
  exact h.block k hk hne

/-- block L is a row of n bytes, the numbers g -/
def Rw (W : World) (L n : Nat) (t : TypeId) (g : Nat → Int) : Prop := ∃ arr : Array Value, W.heap[L]? = some (.cells arr t (0, 0)) ∧ ∀ j, j < n → arr[j]? = some (.int .u8 (g j))
theorem Rw.cell {W : World} {L n : Nat} {t : TypeId} {g : Nat → Int} (h : Rw W L n t g) {j : Nat} (hj : j < n) : W.cell? ⟨L, j, none⟩ = some (.int .u8 (g j)) := by
  obtain ⟨arr, h1, h2⟩ := h
  rw [cell_of_row W L j arr t (0, 0) h1, h2 j hj]
theorem Rw.frozen {W : World} {L n : Nat} {t : TypeId} {g : Nat → Int} (h : Rw W L n t g) (j : Nat) : W.frozen? ⟨L, j, none⟩ = false := by
  obtain ⟨arr, h1, _⟩ := h
  exact frozen_of_row W L j arr t h1
theorem Rw.lt {W : World} {L n : Nat} {t : TypeId} {g : Nat → Int} (h : Rw W L n t g) : L < W.heap.size := let ⟨_, h1, _⟩ := h; lt_of h1
theorem Rw.set {W : World} {L n : Nat} {t : TypeId} {g g' : Nat → Int} (h : Rw W L n t g) (i : Nat) (y : Int) (h1 : g' i = y) (h2 : ∀ j, j < n → j ≠ i → g' j = g j) : Rw (W.setCell ⟨L, i, none⟩ (.int .u8 y)) L n t g' := by
  obtain ⟨arr, e1, e2⟩ := h
  refine ⟨_, heap_setCell_same W L i arr t _ e1, fun j hj => ?_⟩
  have hs : j < arr.size := by
    have := e2 j hj
    exact (Array.getElem?_eq_some_iff.1 this).1
  by_cases e : j = i
  · subst e
    rw [h1, Array.getElem?_setIfInBounds_self_of_lt hs]
  · rw [Array.getElem?_setIfInBounds_ne (fun h => e h.symm), e2 j hj, h2 j hj e]
theorem Rw.block {W W' : World} {L n : Nat} {t : TypeId} {g : Nat → Int} (h : Rw W L n t g) (hb : W'.heap[L]? = W.heap[L]?) : Rw W' L n t g := by
  obtain ⟨arr, e1, e2⟩ := h
  exact ⟨arr, hb.trans e1, e2⟩
theorem Rw.made {W : World} {L n : Nat} (h : W.ownsRow 0 5 1 (.slice (some ⟨L, 0, none⟩) n n) n (List.replicate n (.int .u8 0))) : Rw W L n 5 (fun _ => 0) := by
  have hc := fun i hi => World.ownsRow.cellAt h i hi
  rcases h.2 with ⟨h', _⟩ | ⟨g, cap, cur, hv, _, hh, _⟩
  · simp at h'
  · simp only [Value.slice.injEq, Option.some.injEq, Addr.mk.injEq, and_true, true_and] at hv
    obtain ⟨rfl, _⟩ := hv
    refine ⟨cur, hh, fun j hj => ?_⟩
    have := hc j (by omega)
    rw [cell_of_row W _ _ cur 5 (0, 0) hh] at this
    rw [this]
    simp [hj]

theorem Rd.of {W : World} {L n : Nat} {zs : List Int} {t : TypeId} {g : Nat → Int} (h : Rw W L n t g) (hz : zs.length = n) (hg : ∀ j, j < n → g j = zs.getD j 0) : Rd W (some ⟨L, 0, none⟩) n zs := by
  refine ⟨hz, fun h' => by simp at h', fun _ => ⟨L, 0, rfl, fun i hi => ?_⟩⟩
  rw [Nat.zero_add, h.cell hi, hg i hi]

/-- what cloneBytes hands back -/
def Cl (w : World) (n : Nat) (zs : List Int) (e : Ending) (w' : World) : Prop := ∃ a' c', e = .returned (.slice a' n c') ∧ w.grownBy w' none ∧ Rd w' a' n zs

set_option maxHeartbeats 1600000 in
theorem clone_some (b off n c : Nat) (zs : List Int) (w : World) (hn : n ≤ 1048576) (hz : zs.length = n)
    (hcell : ∀ i, i < n → w.cell? ⟨b, off + i, none⟩ = some (.int .u8 (zs.getD i 0))) :
    Calls Try.prog 8 #[.slice (some ⟨b, off, none⟩) n c] w fun e w' => Cl w n zs e w' := by
  have qs := fun (W : World) (a : Option Addr) (k l : Nat) => Lib.run_eql_slice_nil (P := Try.prog) W 22 5 a k l 0 0 Try.underlying22
  obtain ⟨i0, hi, hz0, hz1, hz2⟩ := info_parts Try.info5
  have HZ := hid hz
  have HC := hid hcell
  clear hz hcell
  go_enter Try.func8, Try.ntmps8
  go_wp2_with (first
    | (at_make; refine wpList_make_full _ rfl _ _ 22 rfl 0 5 i0 _ 1 Try.underlying22 hi hz0 hz1 .i64 .i64 _ _ n rfl rfl rfl rfl (by rw [hz2]; omega) (by unfold maxLen; omega) (Nat.zero_le _) ?_; intro w1 hown hgr; have HO := hid hown; have HG := hid hgr; clear hown hgr)
    | fail)
  have HR0 : Hid (Rw w1 w.heap.size n 5 (fun _ => 0)) := by
    refine Rw.made ?_
    have h := HO.out
    have e : (madeCells (Value.cells (.int .u8 0)) (n * 1)).toList = List.replicate n (.int .u8 0) := by
      rw [Nat.mul_one]; exact toList_madeCells_one _ n
    rw [e] at h
    exact h
  clear HO
  obtain ⟨L, hL⟩ : ∃ L, L = w.heap.size := ⟨_, rfl⟩
  rw [← hL] at HR0 ⊢
  have HL := hid hL
  clear hL
  go_loopw [4] (fun i wv => ∃ (k : Nat) (g : Nat → Int), k ≤ n ∧ i = .int .i64 (k : Int) ∧ Rw wv L n 5 g ∧ w.grownBy wv none ∧ ∀ j, j < k → g j = zs.getD j 0) (fun i _ => n - (intOf i).toNat)
  case atStart => exact ⟨0, _, Nat.zero_le _, rfl, HR0.out, HG.out, fun j hj => absurd hj (Nat.not_lt_zero _)⟩
  case round =>
    obtain ⟨k, g, hk, rfl, hr, hg, hj⟩ := hrel
    obtain ⟨wa, hwa⟩ : ∃ wa, wa = wr := ⟨_, rfl⟩
    subst hwa
    have HR := hid hr
    have HGW := hid hg
    have HJ := hid hj
    clear hr hg hj HR0
    by_cases hlt : k < n
    · have c0 := HC.out k hlt
      have hbl : b < w.heap.size := World.block_lt_of_cell? w _ c0
      have c1 : wa.cell? ⟨b, off + k, none⟩ = some (.int .u8 (zs.getD k 0)) := by
        have e := HGW.out.block b hbl (by simp)
        simp only [World.cell?] at c0 ⊢
        rw [e]
        exact c0
      clear c0
      have c2 := HR.out.cell hlt
      have c3 := HR.out.frozen k
      obtain ⟨y, hy⟩ : ∃ y, y = zs.getD k 0 := ⟨_, rfl⟩
      rw [← hy] at c1
      have HY := hid hy
      clear hy
      have j0 : (0 : Int) ≤ (k : Int) := by omega
      have j1 : (k : Int) < (n : Int) := by omega
      go_wp2
      go_roundw
      case rel =>
        refine ⟨k + 1, fun j => if j = k then y else g j, by omega, by go_num, HR.out.set k y (by simp) (fun j _ hj => by simp [hj]), gset HGW.out (by rw [HL.out]; exact Nat.le_refl _) _, fun j hj => ?_⟩
        by_cases e : j = k
        · simp [e, HY.out]
        · simp [e]; simpa using HJ.out j (by omega)
      case measure => simp [intOf]; omega
    · have hlf : ¬ (k : Int) < (n : Int) := by omega
      go_wp2
      go_ret
      exact ⟨_, _, rfl, HGW.out, Rd.of HR.out HZ.out (fun j hj => HJ.out j (by omega))⟩

set_option maxHeartbeats 1600000 in
theorem clone_nil (c : Nat) (w : World) :
    Calls Try.prog 8 #[.slice none 0 c] w fun e w' => Cl w 0 [] e w' := by
  have qs := fun (W : World) (a : Option Addr) (k l : Nat) => Lib.run_eql_slice_nil (P := Try.prog) W 22 5 a k l 0 0 Try.underlying22
  go_enter Try.func8, Try.ntmps8
  go_wp2
  go_ret
  exact ⟨_, _, rfl, ⟨rfl, rfl, rfl, Nat.le_refl _, fun _ _ _ => rfl⟩, rfl, fun _ => rfl, fun h => absurd h (Nat.lt_irrefl _)⟩

set_option maxHeartbeats 1600000 in
theorem clone_zero (x : Addr) (c : Nat) (w : World) :
    Calls Try.prog 8 #[.slice (some x) 0 c] w fun e w' => Cl w 0 [] e w' := by
  have qs := fun (W : World) (a : Option Addr) (k l : Nat) => Lib.run_eql_slice_nil (P := Try.prog) W 22 5 a k l 0 0 Try.underlying22
  obtain ⟨i0, hi, hz0, hz1, hz2⟩ := info_parts Try.info5
  go_enter Try.func8, Try.ntmps8
  go_wp2_with (first
    | (at_make; refine wpList_make_full _ rfl _ _ 22 rfl 0 5 i0 _ 1 Try.underlying22 hi hz0 hz1 .i64 .i64 _ _ 0 rfl rfl rfl rfl (by rw [hz2]; omega) (by unfold maxLen; omega) (Nat.zero_le _) ?_; intro w1 hown hgr; have HG := hid hgr; clear hown hgr)
    | fail)
  go_loop [4] (fun i => i = .int .i64 0) (fun _ => 0)
  case atStart => exact rfl
  case round =>
    subst hrel
    go_wp2
    go_ret
    exact ⟨_, _, rfl, HG.out, rfl, fun _ => rfl, fun h => absurd h (Nat.lt_irrefl _)⟩

theorem clone (a : Option Addr) (n c : Nat) (zs : List Int) (w : World) (hn : n ≤ 1048576) (hr : Rd w a n zs) :
    Calls Try.prog 8 #[.slice a n c] w fun e w' => Cl w n zs e w' := by
  obtain ⟨hz, h0, h⟩ := hr
  by_cases hn0 : n = 0
  · subst hn0
    have e : zs = [] := List.eq_nil_of_length_eq_zero hz
    subst e
    cases a with
    | none => exact clone_nil c w
    | some x => exact clone_zero x c w
  · obtain ⟨b, off, rfl, hc⟩ := h (by omega)
    exact clone_some b off n c zs w hn hz hc
end Go.Proofs.Qxb6603046a.Hx
