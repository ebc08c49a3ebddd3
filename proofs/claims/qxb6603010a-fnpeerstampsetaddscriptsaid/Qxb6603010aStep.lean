import Derived.Test.Qxb6603010aStOps
namespace Go.Proofs.Qxb6603010a.St
open Go.RowKit Go.Maps Mp
open Pr (hid ret_bool lt_of al1 run_mm)

variable {h : Nat} {w W : World} {F S O C N : Nat} {o : List Int} {r : Option Nat}

theorem step_old (H : Sta h w W F S O C N o o o r) (x : Int) (hC : C ≤ 65536) (hx : x ∈ o) (hux : U x) :
    Calls Try.prog 11 #[.slice (some ⟨F, 0, none⟩) (min o.length C) C, .map r, .int .u64 x] W fun e W' => e = .returned (.tuple #[.slice (some ⟨F, 0, none⟩) (min o.length C) C, .map r, .bool false]) ∧ Sta h w W' F S O C N o o o r := by
  have key : Calls Try.prog 14 #[.agg #[.slice (some ⟨F, 0, none⟩) (min o.length C) C, .map r], .int .u64 x] W fun e w' => ∃ r', e = .returned (.tuple #[.agg #[.slice (some ⟨F, 0, none⟩) (min o.length C) C, .map r'], .bool false]) ∧ (r' = r ∧ W.grownBy w' none) := by
    by_cases hc : o.length ≤ C
    · have hr := H.lo hc
      subst hr
      have hf := H.few
      rw [List.take_of_length_le hc] at hf
      exact (add_few_old F _ C o x W hf (by omega) hx).mono fun e w' ⟨he, hg⟩ => ⟨none, he, rfl, hg⟩
    · obtain ⟨M, rfl, hm, _, _⟩ := H.hi (by omega)
      exact (add_many_old F _ C M o x W hm hx hux).mono fun e w' ⟨he, hg⟩ => ⟨some M, he, rfl, hg⟩
  refine (zzAdd F _ C F _ C r x false W (fun r' w' => r' = r ∧ W.grownBy w' none) key).mono ?_
  rintro e w'' ⟨r', rfl, w', ⟨rfl, hg⟩, hg2⟩
  exact ⟨rfl, H.none (hg.trans hg2)⟩

theorem step_new (H : Sta h w W F S O C N o o o r) (x : Int) (hC : C ≤ 65536) (ho : o.length ≤ 65536) (hx : x ∉ o) (hux : U x) (hd : o.Nodup) (hu : ∀ y ∈ o, U y) :
    Calls Try.prog 11 #[.slice (some ⟨F, 0, none⟩) (min o.length C) C, .map r, .int .u64 x] W fun e W' => ∃ r', e = .returned (.tuple #[.slice (some ⟨F, 0, none⟩) (min (o ++ [x]).length C) C, .map r', .bool true]) ∧ Sta h w W' F S O C N (o ++ [x]) o o r' := by
  have key : Calls Try.prog 14 #[.agg #[.slice (some ⟨F, 0, none⟩) (min o.length C) C, .map r], .int .u64 x] W fun e w' => ∃ r', e = .returned (.tuple #[.agg #[.slice (some ⟨F, 0, none⟩) (min (o ++ [x]).length C) C, .map r'], .bool true]) ∧ Sta h w w' F S O C N (o ++ [x]) o o r' := by
    by_cases hc : o.length ≤ C
    · have hr := H.lo hc
      subst hr
      have hf := H.few
      rw [List.take_of_length_le hc, show min o.length C = o.length by omega] at hf
      rw [show min o.length C = o.length by omega]
      by_cases he : o.length < C
      · refine (add_few_new F _ C o x W hf hC he hx).mono ?_
        rintro e w' ⟨rfl, hg, hf'⟩
        refine ⟨none, ?_, H.addFew x he hg hf'⟩
        rw [show min (o ++ [x]).length C = o.length + 1 by simp; omega]
      · have hq : o.length = C := by omega
        refine (add_full F _ C o x W hf hC hq hx hd hu hux).mono ?_
        rintro e w' ⟨M, rfl, hg, hM, hm⟩
        refine ⟨some M, ?_, H.addFull x hq hg hM hm⟩
        rw [show min (o ++ [x]).length C = o.length by simp; omega]
    · obtain ⟨M, hr, hm, _, _⟩ := H.hi (by omega)
      subst hr
      refine (add_many_new F _ C M o x W hm hx hux ho).mono ?_
      rintro e w' ⟨rfl, hg, hm'⟩
      refine ⟨some M, ?_, H.addMany x rfl (by omega) hg hm'⟩
      rw [show min (o ++ [x]).length C = min o.length C by simp; omega]
  refine (zzAdd F _ C F _ C r x true W (fun r' w' => Sta h w w' F S O C N (o ++ [x]) o o r') key).mono ?_
  rintro e w'' ⟨r', rfl, w', hs, hg2⟩
  exact ⟨r', rfl, hs.none hg2⟩

theorem Sta.in1 (H : Sta h w W F S O C N o o o r) (hh : h = w.heap.size) {p : Addr} {v : Value} (hc : w.cell? p = some v) : W.cell? p = some v := by
  rw [H.b.cell (by rw [hh]; exact World.block_lt_of_cell? w _ hc), hc]
theorem Sta.ordCell {of os : List Int} (H : Sta h w W F S O C N of os o r) {j : Nat} (hj : j < o.length) : W.cell? ⟨O, j, Option.none⟩ = some (.int .u64 (o.getD j 0)) := H.ord.cell hj
theorem Sta.fewCell {os oo : List Int} (H : Sta h w W F S O C N o os oo r) {j : Nat} (hj : j < C) (hc : C < o.length) : W.cell? ⟨F, j, Option.none⟩ = some (.int .u64 (o.getD j 0)) := by
  rw [H.few.cell (by omega)]
  simp [hj]
theorem Sta.lookMany {os oo : List Int} {M : Nat} (H : Sta h w W F S O C N o os oo (some M)) (hc : C < o.length) {x : Int} (hu : U x) (hx : x ∈ o) : (Instr.lookup 34 (.map (some M)) (.int .u64 x) false).run Try.prog W = .ok (.bool true) W := by
  obtain ⟨M', e, hm, _, _⟩ := H.hi hc
  cases e
  rw [hm.look keyed35 Try.underlying34 (zero4 W) (kl := .int .u64 x) trivial (key_u x hu)]
  simp [setf, hx]
theorem Sta.lenMany {os oo : List Int} {M : Nat} (H : Sta h w W F S O C N o os oo (some M)) (hc : C < o.length) (ty : TypeId) : (Builtin.len_ #[34] ty #[.map (some M)]).run Try.prog W = .ok (.int .i64 (o.length : Int)) W := by
  obtain ⟨M', e, hm, _, _⟩ := H.hi hc
  cases e
  exact hm.len Try.underlying34 ty
theorem getD_mem {l : List Int} {j : Nat} (hj : j < l.length) : l.getD j 0 ∈ l := by
  rw [List.getD_eq_getElem?_getD, List.getElem?_eq_getElem hj]
  exact List.getElem_mem _
end Go.Proofs.Qxb6603010a.St
