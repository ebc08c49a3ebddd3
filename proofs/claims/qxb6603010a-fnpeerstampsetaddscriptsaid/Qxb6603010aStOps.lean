import Derived.Test.Qxb6603010aAdd
namespace Go.Proofs.Qxb6603010a.St
open Go.RowKit Go.Maps Mp
open Pr (hid ret_bool lt_of al1 run_mm)

theorem zz10 (cp : Int) (a : Option Addr) (n c : Nat) (w : World) (hn : n ≤ maxLen) :
    Calls Try.prog 10 #[.int .i64 cp, .slice a n c] w fun e w' => e = .returned (.bool (decide (n ≤ 1048576))) ∧ w = w' := by
  unfold maxLen at hn
  by_cases h : n ≤ 1048576
  · go_enter Try.func10, Try.ntmps10
    go_wp2
    go_ret
    exact ⟨ret_bool (by simpa using h), rfl⟩
  · go_enter Try.func10, Try.ntmps10
    go_wp2
    go_ret
    exact ⟨ret_bool (by simpa using h), rfl⟩

set_option maxHeartbeats 800000 in
theorem zzAdd (F k C F' k' C' : Nat) (r : Option Nat) (x : Int) (b : Bool) (w : World) (P : Option Nat → World → Prop)
    (H : Calls Try.prog 14 #[.agg #[.slice (some ⟨F, 0, none⟩) k C, .map r], .int .u64 x] w fun e w' => ∃ r', e = .returned (.tuple #[.agg #[.slice (some ⟨F', 0, none⟩) k' C', .map r'], .bool b]) ∧ P r' w') :
    Calls Try.prog 11 #[.slice (some ⟨F, 0, none⟩) k C, .map r, .int .u64 x] w fun e w'' => ∃ r', e = .returned (.tuple #[.slice (some ⟨F', 0, none⟩) k' C', .map r', .bool b]) ∧ ∃ w', P r' w' ∧ w'.grownBy w'' none := by
  have HH := hid H
  clear H
  go_enter Try.func11, Try.ntmps11
  go_wp2_with fail
  refine HH.out.mono ?_
  rintro e w1 ⟨r', rfl, hp⟩
  have HP := hid hp
  clear hp
  go_wp2_with fail
  go_quiet (fail)
  go_wp2
  go_ret3
  exact ⟨r', rfl, w1, HP.out, (World.grownBy_alloc w1 _ none).trans ⟨rfl, rfl, rfl, Nat.le_refl _, fun _ _ _ => rfl⟩⟩

set_option maxHeartbeats 800000 in
theorem sameU64 (F k C O N : Nat) (o : List Int) (w : World) (h1 : Few w F k C o) (h2 : Few w O k N o) (hk : k ≤ 65536) :
    Calls Try.prog 12 #[.slice (some ⟨F, 0, none⟩) k C, .slice (some ⟨O, 0, none⟩) k N] w fun e w' => e = .returned (.bool true) ∧ ∃ d, w' = w.drewN d := by
  have qs := fun (W : World) (a : Option Addr) (k l : Nat) => Lib.run_eql_slice_nil (P := Try.prog) W 32 35 a k l 0 0 Try.underlying32
  have H1 := hid h1
  have H2 := hid h2
  clear h1 h2
  go_enter Try.func12, Try.ntmps12
  go_wp2
  go_loopw [5] (fun i wv => ∃ (q d : Nat), q ≤ k ∧ i = .int .i64 (q : Int) ∧ wv = w.drewN d) (fun i _ => k - (intOf i).toNat)
  case atStart => exact ⟨0, 0, Nat.zero_le _, rfl, rfl⟩
  case round =>
    obtain ⟨q, d, hq, rfl, rfl⟩ := hrel
    by_cases hlt : q < k
    · have c1 := H1.out.cell hlt
      have c2 := H2.out.cell hlt
      generalize o.getD q 0 = y at c1 c2
      have j0 : (0 : Int) ≤ (q : Int) := by omega
      have j1 : (q : Int) < (k : Int) := by omega
      go_wp2
      go_quiet (fail)
      go_wp2
      go_roundw
      case rel => exact ⟨q + 1, d + nq, by omega, by go_num, rfl⟩
      case measure => simp [intOf]; omega
    · go_wp2
      go_ret
      exact ⟨rfl, d, rfl⟩

/-! ### the distinct stamps, in the order of their first coming -/
def ord (l : List Int) : List Int := l.foldl (fun o x => if x ∈ o then o else o ++ [x]) []
theorem ord_snoc (l : List Int) (x : Int) : ord (l ++ [x]) = if x ∈ ord l then ord l else ord l ++ [x] := by
  unfold ord; rw [List.foldl_append]; rfl
theorem ord_props (zs : List Int) : ∀ i, i ≤ zs.length → (ord (zs.take i)).Nodup ∧ (ord (zs.take i)).length ≤ i ∧ ∀ y ∈ ord (zs.take i), y ∈ zs := by
  intro i
  induction i with
  | zero => intro _; simp [ord]
  | succ i ih =>
    intro h
    obtain ⟨h1, h2, h3⟩ := ih (by omega)
    rw [take_snoc_int zs i (by omega), ord_snoc]
    split
    · exact ⟨h1, by omega, h3⟩
    · rename_i hn
      refine ⟨?_, by simp; omega, fun y hy => ?_⟩
      · rw [List.nodup_append]
        refine ⟨h1, by simp, fun a ha b hb => ?_⟩
        simp at hb
        intro e
        rw [e, hb] at ha
        exact hn ha
      · rcases List.mem_append.1 hy with h | h
        · exact h3 y h
        · simp at h
          rw [h, List.getElem?_eq_getElem (show i < zs.length by omega)]
          exact List.getElem_mem _

/-! ### the state of a round: of, os, oo: what few and many, seen, order hold -/
structure Sta (h : Nat) (w W : World) (F S O C N : Nat) (of os oo : List Int) (r : Option Nat) : Prop where
  few : Few W F (min of.length C) C (of.take C)
  seen : MapIs Try.prog 35 W S (setf os) os.length
  ord : Few W O oo.length N oo
  lo : of.length ≤ C → r = none
  hi : C < of.length → ∃ M, r = some M ∧ MapIs Try.prog 35 W M (setf of) of.length ∧ h ≤ M ∧ M ≠ S
  b : Below h w W
  hF : h ≤ F
  hS : h ≤ S
  hO : h ≤ O
  fo : F ≠ O

theorem map_ne_few {W : World} {M F k C : Nat} {o : List Int} {f : Lit → Option Value} {s : Nat} (hm : MapIs Try.prog 35 W M f s) (hf : Few W F k C o) : M ≠ F := by
  intro e
  obtain ⟨es, cl, h1⟩ := hm.isMapBlock
  obtain ⟨cur, h2⟩ := hf.isRow
  rw [e, h2] at h1
  simp at h1

variable {h : Nat} {w W W' : World} {F S O C N : Nat} {of os oo : List Int} {r : Option Nat}

theorem bgrow (hb : Below h w W) (hg : W.grownBy W' r) (hr : ∀ k, r = some k → h ≤ k) (hl : h ≤ W.heap.size) : Below h w W' := hb.grown hg hl hr

theorem Sta.hl (H : Sta h w W F S O C N of os oo r) : h ≤ W.heap.size := Nat.le_trans H.hF (Nat.le_of_lt H.few.lt)

/-- nothing but new blocks -/
theorem Sta.none (H : Sta h w W F S O C N of os oo r) (hg : W.grownBy W' Option.none) : Sta h w W' F S O C N of os oo r where
  few := H.few.kept hg (by simp)
  seen := H.seen.block (hg.block _ H.seen.lt (by simp))
  ord := H.ord.kept hg (by simp)
  lo := H.lo
  hi := fun hc => let ⟨M, e, hm, h1, h2⟩ := H.hi hc; ⟨M, e, hm.block (hg.block _ hm.lt (by simp)), h1, h2⟩
  b := H.b.grown hg H.hl (fun k hk => by cases hk)
  hF := H.hF
  hS := H.hS
  hO := H.hO
  fo := H.fo
theorem Sta.drewN (H : Sta h w W F S O C N of os oo r) (d : Nat) : Sta h w (W.drewN d) F S O C N of os oo r :=
  H.none ⟨rfl, rfl, rfl, Nat.le_refl _, fun _ _ _ => rfl⟩

/-- few has taken x -/
theorem Sta.addFew (H : Sta h w W F S O C N of os oo r) (x : Int) (hc : of.length < C) (hg : W.grownBy W' (some F)) (hf : Few W' F (of.length + 1) C (of ++ [x])) : Sta h w W' F S O C N (of ++ [x]) os oo Option.none := by
  have e1 : min (of ++ [x]).length C = of.length + 1 := by simp; omega
  have e2 : (of ++ [x]).take C = of ++ [x] := List.take_of_length_le (by simp; omega)
  refine ⟨by rw [e1, e2]; exact hf, H.seen.block (hg.block _ H.seen.lt (by have := map_ne_few H.seen H.few; simpa using this)), H.ord.kept hg (by simpa using H.fo), fun _ => rfl, fun hc' => by simp at hc'; omega, H.b.grown hg H.hl (fun k hk => by cases hk; exact H.hF), H.hF, H.hS, H.hO, H.fo⟩

/-- the map has been made -/
theorem Sta.addFull (H : Sta h w W F S O C N of os oo r) (x : Int) {M : Nat} (hc : of.length = C) (hg : W.grownBy W' Option.none) (hM : W.heap.size ≤ M) (hm : MapIs Try.prog 35 W' M (setf (of ++ [x])) (of.length + 1)) : Sta h w W' F S O C N (of ++ [x]) os oo (some M) := by
  have K := H.none hg
  have e1 : min (of ++ [x]).length C = min of.length C := by simp; omega
  have e2 : (of ++ [x]).take C = of.take C := by rw [List.take_append_of_le_length (by omega)]
  have := H.seen.lt
  have := H.hl
  refine ⟨by rw [e1, e2]; exact K.few, K.seen, K.ord, fun hl => by simp at hl; omega, fun _ => ⟨M, rfl, by simpa using hm, by omega, by omega⟩, K.b, K.hF, K.hS, K.hO, K.fo⟩

/-- many has taken x -/
theorem Sta.addMany (H : Sta h w W F S O C N of os oo r) (x : Int) {M : Nat} (hr : r = some M) (hc : C < of.length) (hg : W.grownBy W' (some M)) (hm : MapIs Try.prog 35 W' M (setf (of ++ [x])) (of.length + 1)) : Sta h w W' F S O C N (of ++ [x]) os oo (some M) := by
  obtain ⟨M', e, hm0, hhM, hMS⟩ := H.hi hc
  rw [hr] at e
  cases e
  have e1 : min (of ++ [x]).length C = min of.length C := by simp; omega
  have e2 : (of ++ [x]).take C = of.take C := by rw [List.take_append_of_le_length (by omega)]
  have nF := map_ne_few hm0 H.few
  have nO := map_ne_few hm0 H.ord
  refine ⟨by rw [e1, e2]; exact H.few.kept hg (by simpa using nF), H.seen.block (hg.block _ H.seen.lt (by simpa using hMS.symm)), H.ord.kept hg (by simpa using nO), fun hl => by simp at hl; omega, fun _ => ⟨M, rfl, by simpa using hm, hhM, hMS⟩, H.b.grown hg H.hl (fun k hk => by cases hk; exact hhM), H.hF, H.hS, H.hO, H.fo⟩

/-- seen has taken x -/
theorem Sta.addSeen (H : Sta h w W F S O C N of os oo r) (x : Int) (hu : U x) (hn : x ∉ os) (ho : os.length ≤ 65536) :
    ∃ W', (Instr.mapUpdate 34 (.map (some S)) (.int .u64 x) (.bool true)).run Try.prog W = .ok () W' ∧ Sta h w W' F S O C N of (os ++ [x]) oo r := by
  obtain ⟨W', hrun, hm, hg, _⟩ := H.seen.store keyed35 Try.underlying34 (by unfold maxLen; omega) (kl := .int .u64 x) trivial (key_u x hu) (.bool true) (setf_snoc os x).1 (setf_snoc os x).2
  have hf : setf os (.int .u64 x) = Option.none := by simp [setf, hn]
  rw [hf] at hm
  refine ⟨W', hrun, H.few.kept hg (by simpa using map_ne_few H.seen H.few), by simpa using hm, H.ord.kept hg (by simpa using map_ne_few H.seen H.ord), H.lo, fun hc => ?_, H.b.grown hg H.hl (fun k hk => by cases hk; exact H.hS), H.hF, H.hS, H.hO, H.fo⟩
  obtain ⟨M, e, hm0, h1, h2⟩ := H.hi hc
  exact ⟨M, e, hm0.block (hg.block _ hm0.lt (by simpa using h2)), h1, h2⟩

/-- order has taken x -/
theorem Sta.addOrd (H : Sta h w W F S O C N of os oo r) (x : Int) (hg : W.grownBy W' (some O)) (hf : Few W' O (oo.length + 1) N (oo ++ [x])) : Sta h w W' F S O C N of os (oo ++ [x]) r := by
  refine ⟨H.few.kept hg (by simpa using H.fo.symm), H.seen.block (hg.block _ H.seen.lt (by simpa using map_ne_few H.seen H.ord)), by simpa using hf, H.lo, fun hc => ?_, H.b.grown hg H.hl (fun k hk => by cases hk; exact H.hO), H.hF, H.hS, H.hO, H.fo⟩
  obtain ⟨M, e, hm0, h1, h2⟩ := H.hi hc
  exact ⟨M, e, hm0.block (hg.block _ hm0.lt (by simpa using map_ne_few hm0 H.ord)), h1, h2⟩

theorem Sta.lookSeen (H : Sta h w W F S O C N of os oo r) (x : Int) (hu : U x) : (Instr.lookup 34 (.map (some S)) (.int .u64 x) false).run Try.prog W = .ok (.bool (decide (x ∈ os))) W := by
  rw [H.seen.look keyed35 Try.underlying34 (zero4 W) (kl := .int .u64 x) trivial (key_u x hu)]
  by_cases hx : x ∈ os <;> simp [setf, hx]
end Go.Proofs.Qxb6603010a.St
