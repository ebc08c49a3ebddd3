import Derived.Test.Qxb6603010aRows
import Derived.Test.Qxb6603010aMapIs
import Derived.WalkKit
import Derived.WalkSpells
import Derived.WalkLawsBesides
import Derived.Deep.QuietTactic
import Derived.BigQuiet
namespace Go.Proofs.Qxb6603010a.Pr
open Go.RowKit Go.Maps Mp

theorem hid {p : Prop} (h : p) : Hid p := h
theorem ret_bool {a b : Bool} (h : a = b) : Ending.returned (.bool a) = .returned (.bool b) := by rw [h]
theorem lt_of {W : World} {L : Nat} {o : Obj} (h : W.heap[L]? = some o) : L < W.heap.size := (Array.getElem?_eq_some_iff.1 h).1
theorem al1 (w : World) (a : Obj) (M : Nat) (h : M < w.heap.size) : (w.alloc a).heap[M]? = w.heap[M]? := Below.heap_alloc w a M h

theorem run_mm {P : Program} {t k e : TypeId} (ht : P.underlying t = some (.map k e)) (q : IntKind) (n : Int) (w : World) :
    (Instr.makeMap t (some (.int q n))).run P w = .ok (.map (some w.heap.size)) (w.alloc (.map #[] 0)) := by
  simp [Instr.makeMap, run_underlying ht, asInt, asIntOf, Result.andThen]

/-- a slice of bytes as a list of numbers -/
def Rd (w : World) (a : Option Addr) (n : Nat) (zs : List Int) : Prop :=
  zs.length = n ∧ (a = none → n = 0) ∧ (0 < n → ∃ b off, a = some ⟨b, off, none⟩ ∧ ∀ i, i < n → w.cell? ⟨b, off + i, none⟩ = some (.int .u8 (zs.getD i 0)))
theorem Rd.below {B n : Nat} {w w' : World} {a : Option Addr} {zs : List Int} (h : Rd w a n zs) (hb : Below B w w') (hB : w.heap.size ≤ B) : Rd w' a n zs := by
  obtain ⟨h1, h2, h3⟩ := h
  refine ⟨h1, h2, fun hn => ?_⟩
  obtain ⟨b, off, ha, hc⟩ := h3 hn
  refine ⟨b, off, ha, fun i hi => ?_⟩
  have h := hc i hi
  rw [hb.cell (Nat.lt_of_lt_of_le (World.block_lt_of_cell? w _ h) hB), h]
theorem Rd.drewN {n : Nat} {w : World} {a : Option Addr} {zs : List Int} (h : Rd w a n zs) (d : Nat) : Rd (w.drewN d) a n zs := h

def same (l m : List Int) (k : Nat) : Bool := (l.take k == m.take k)
theorem take_snoc_int (zs : List Int) (k : Nat) (h : k < zs.length) : zs.take (k + 1) = zs.take k ++ [zs.getD k 0] := by
  rw [List.take_succ_eq_append_getElem h]; simp [h]

set_option maxHeartbeats 800000 in
theorem sameBytes (a1 a2 : Option Addr) (n1 c1 n2 c2 : Nat) (l m : List Int) (w : World) (h1 : Rd w a1 n1 l) (h2 : Rd w a2 n2 m) (hn1 : n1 ≤ maxLen) (hn2 : n2 ≤ maxLen) :
    Calls Try.prog 8 #[.slice a1 n1 c1, .slice a2 n2 c2] w fun e w' => e = .returned (.bool (l == m)) ∧ ∃ d, w' = w.drewN d := by
  unfold maxLen at hn1 hn2
  obtain ⟨hl, _, h1⟩ := h1
  obtain ⟨hm, _, h2⟩ := h2
  by_cases hne : n1 = n2
  · subst hne
    by_cases h0 : n1 = 0
    · subst h0
      have e : (l == m) = true := by rw [List.eq_nil_of_length_eq_zero hl, List.eq_nil_of_length_eq_zero hm]; rfl
      have HE := hid e
      clear e
      go_enter Try.func8, Try.ntmps8
      go_wp2
      refine wp_loop_rounds 1 ?_
      rw [rounds_succ]
      go_wp2
      go_ret
      exact ⟨ret_bool HE.out.symm, 0, rfl⟩
    · obtain ⟨b1, o1, rfl, hc1⟩ := h1 (by omega)
      obtain ⟨b2, o2, rfl, hc2⟩ := h2 (by omega)
      have HL := hid hl
      have HM := hid hm
      have HC1 := hid hc1
      have HC2 := hid hc2
      clear hl hm hc1 hc2 h1 h2
      go_enter Try.func8, Try.ntmps8
      go_wp2
      go_loopw [5] (fun i wv => ∃ (k d : Nat), k ≤ n1 ∧ i = .int .i64 (k : Int) ∧ l.take k = m.take k ∧ wv = w.drewN d) (fun i _ => n1 - (intOf i).toNat)
      case atStart => exact ⟨0, 0, Nat.zero_le _, rfl, rfl, rfl⟩
      case round =>
        obtain ⟨k, d, hk, rfl, heq, rfl⟩ := hrel
        have HEQ := hid heq
        clear heq
        by_cases hlt : k < n1
        · have e1 : w.cell? ⟨b1, o1 + k, none⟩ = some (.int .u8 (l.getD k 0)) := HC1.out k hlt
          have e2 : w.cell? ⟨b2, o2 + k, none⟩ = some (.int .u8 (m.getD k 0)) := HC2.out k hlt
          have T1 := hid (take_snoc_int l k (by rw [HL.out]; exact hlt))
          have T2 := hid (take_snoc_int m k (by rw [HM.out]; exact hlt))
          have i0 : (0 : Int) ≤ (k : Int) := by omega
          have i1 : (k : Int) < (n1 : Int) := by omega
          obtain ⟨x, hx⟩ : ∃ x, x = l.getD k 0 := ⟨_, rfl⟩
          obtain ⟨y, hy⟩ : ∃ y, y = m.getD k 0 := ⟨_, rfl⟩
          rw [← hx] at e1 T1
          rw [← hy] at e2 T2
          have HX := hid hx
          have HY := hid hy
          clear hx hy
          cases hxy : (x != y)
          · go_wp2
            go_quiet (fail)
            go_wp2
            go_roundw
            case rel => exact ⟨k + 1, d + nq, by omega, by go_num, by rw [T1.out, T2.out, HEQ.out]; simpa using hxy, rfl⟩
            case measure => simp [intOf]; omega
          · have HN : Hid ((l == m) = false) := by
              show _ = _
              simp only [beq_eq_false_iff_ne, ne_eq]
              intro e
              rw [e] at HX
              rw [HX.out, HY.out] at hxy
              simp at hxy
            go_wp2
            go_quiet (fail)
            go_wp2
            go_ret
            exact ⟨ret_bool HN.out.symm, d + nq, World.drewN_drewN _ _ _⟩
        · have hkn : k = n1 := by omega
          subst hkn
          go_wp2
          go_ret
          have e := HEQ.out
          rw [List.take_of_length_le (by rw [HL.out]; exact Nat.le_refl _), List.take_of_length_le (by rw [HM.out]; exact Nat.le_refl _)] at e
          exact ⟨ret_bool (by rw [e]; simp), d, rfl⟩
  · have hne' : ((n1 : Int) != (n2 : Int)) = true := by simp; omega
    have HE : Hid ((l == m) = false) := by
      show _ = _
      simp only [beq_eq_false_iff_ne, ne_eq]
      intro e
      rw [e] at hl; omega
    clear h1 h2
    go_enter Try.func8, Try.ntmps8
    go_wp2
    go_ret
    exact ⟨ret_bool HE.out.symm, 0, rfl⟩
end Go.Proofs.Qxb6603010a.Pr
