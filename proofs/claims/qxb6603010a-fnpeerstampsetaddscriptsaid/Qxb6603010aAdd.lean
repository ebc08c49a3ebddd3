import Derived.Test.Qxb6603010aBase
import Derived.Deep.AppendLies
namespace Go.Proofs.Qxb6603010a.St
open Go.RowKit Go.Maps Mp
open Pr (hid ret_bool lt_of al1 run_mm)

theorem keyed35 : Keyed Try.prog 35 := int_keyed Try.underlying35
theorem zero4 (w : World) : (zeroValue 4).run Try.prog w = .ok (.bool false) w := by kernel_rfl
theorem Try.info35 : (Try.prog.info? 35).map (fun i => (i.zero, i.size, i.bytes)) = some (some (.int .u64 0), 1, 8) := by kernel_rfl

def U (x : Int) : Prop := (Lit.int .u64 x).wf = true
def setf (o : List Int) : Lit → Option Value
  | .int .u64 a => if a ∈ o then some (.bool true) else none
  | _ => none
theorem setf_snoc (o : List Int) (x : Int) : setf (o ++ [x]) (.int .u64 x) = some (.bool true) ∧ ∀ y, WideAt.IsKeyLit y → y ≠ .int .u64 x → setf (o ++ [x]) y = setf o y := by
  constructor
  · simp [setf]
  · intro y _ hy
    cases y <;> try rfl
    rename_i q a _
    cases q <;> try rfl
    have ha : a ≠ x := fun e => hy (by rw [e])
    simp [setf, ha]
theorem key_u (x : Int) (h : U x) : keyOf Try.prog 35 (.int .u64 x) = some (.int .u64 x) := keyOf_int_mk Try.underlying35 h

/-- a row of stamps: block F, length k, capacity C -/
def Few (w : World) (F k C : Nat) (o : List Int) : Prop := w.ownsRow 0 35 1 (.slice (some ⟨F, 0, none⟩) k C) k (o.map (Value.int .u64))
theorem Few.len {w : World} {F k C : Nat} {o : List Int} (h : Few w F k C o) : o.length = k := by have := h.1; simpa using this
theorem Few.cell {w : World} {F k C : Nat} {o : List Int} (h : Few w F k C o) {i : Nat} (hi : i < k) : w.cell? ⟨F, i, none⟩ = some (.int .u64 (o.getD i 0)) := by
  rw [World.ownsRow.cellAt h i (by omega)]
  have := h.len
  simp [List.getElem?_eq_getElem (show i < o.length by omega)]
theorem Few.lt {w : World} {F k C : Nat} {o : List Int} (h : Few w F k C o) : F < w.heap.size := (World.ownsRow.lt h F rfl).2
theorem Few.isRow {w : World} {F k C : Nat} {o : List Int} (h : Few w F k C o) : ∃ cur, w.heap[F]? = some (.cells cur 35 (0, 0)) := by
  rcases h.2 with ⟨h', _⟩ | ⟨g, cap, cur, hv, _, hh, _⟩
  · simp at h'
  · simp only [Value.slice.injEq, Option.some.injEq, Addr.mk.injEq, and_true, true_and] at hv
    rw [hv.1]; exact ⟨cur, hh⟩
theorem Few.kept {w w' : World} {F k C : Nat} {o : List Int} {row : Option Nat} (h : Few w F k C o) (hg : w.grownBy w' row) (hne : row ≠ some F) : Few w' F k C o :=
  World.ownsRow.kept h hg (.inr (fun e => hne e.symm))
theorem Few.le {w : World} {F k C : Nat} {o : List Int} (h : Few w F k C o) : k ≤ C := by
  rcases h.2 with ⟨h', _⟩ | ⟨g, cap, cur, hv, _, _, hkc, _⟩
  · simp at h'
  · simp only [Value.slice.injEq] at hv
    omega

theorem row2 {W : World} {L : Nat} {a b : Value} {t : TypeId} (h : W.heap[L]? = some (.cells #[a, b] t (0, 0))) :
    W.cell? ⟨L, 0, none⟩ = some a ∧ W.cell? ⟨L, 1, none⟩ = some b ∧ W.frozen? ⟨L, 0, none⟩ = false ∧ W.frozen? ⟨L, 1, none⟩ = false := by
  refine ⟨?_, ?_, frozen_of_row W L 0 _ t h, frozen_of_row W L 1 _ t h⟩
  all_goals rw [cell_of_row W L _ _ t (0, 0) h]; rfl

/-- behind the two blocks that 'add' lays first -/
structure In (w W : World) (fv mv : Value) : Prop where
  s : W.heap[w.heap.size]? = some (.cells #[fv, mv] 43 (0, 0))
  r : W.heap[w.heap.size + 1]? = some (.cells #[.slice none 0 0, .map none] 43 (0, 0))
  g : w.grownBy W none
theorem in_start (w : World) (fv mv : Value) : In w ((w.alloc (.cells #[fv, mv] 43)).alloc (.cells #[.slice none 0 0, .map none] 43)) fv mv := by
  refine ⟨(al1 _ _ _ (by simp)).trans (heap_alloc_new w _), ?_, (World.grownBy_alloc w _ none).trans (World.grownBy_alloc _ _ none)⟩
  have := heap_alloc_new (w.alloc (.cells #[fv, mv] 43)) (.cells #[.slice none 0 0, .map none] 43)
  simpa using this

theorem In.few {w W : World} {fv mv : Value} (h : In w W fv mv) {F k C : Nat} {o : List Int} (hF : Few w F k C o) : Few W F k C o := hF.kept h.g (by simp)

/-- the end of 'add': what s holds is stored into the result's cell -/
theorem out_world {W : World} {a b a0 b0 : Value} {h : Nat} (hs : W.heap[h + 1]? = some (.cells #[a0, b0] 43 (0, 0))) :
    ((W.setCell ⟨h + 1, 0, none⟩ a).setCell ⟨h + 1, 1, none⟩ b).heap[h + 1]? = some (.cells #[a, b] 43 (0, 0)) ∧ ∀ j, j ≠ h + 1 → ((W.setCell ⟨h + 1, 0, none⟩ a).setCell ⟨h + 1, 1, none⟩ b).heap[j]? = W.heap[j]? := by
  refine ⟨heap_setCell_same _ (h + 1) 1 _ 43 _ (heap_setCell_same W (h + 1) 0 _ 43 _ hs), fun j hj => ?_⟩
  rw [Below.heap_setCell _ _ _ _ hj, Below.heap_setCell _ _ _ _ hj]
theorem out_grown {w W : World} {row : Option Nat} {a b : Value} (hg : w.grownBy W row) : w.grownBy ((W.setCell ⟨w.heap.size + 1, 0, none⟩ a).setCell ⟨w.heap.size + 1, 1, none⟩ b) row := by
  refine ⟨hg.os, hg.tape, hg.output, ?_, fun k hk hne => ?_⟩
  · have := hg.size; simpa [World.setCell] using this
  · rw [Below.heap_setCell _ _ _ _ (show k ≠ w.heap.size + 1 by omega), Below.heap_setCell _ _ _ _ (show k ≠ w.heap.size + 1 by omega)]
    exact hg.block k hk hne

theorem gt {w a b : World} {row : Option Nat} (h1 : w.grownBy a none) (h2 : a.grownBy b row) : w.grownBy b row :=
  ⟨h2.os.trans h1.os, h2.tape.trans h1.tape, h2.output.trans h1.output, Nat.le_trans h1.size h2.size, fun k hk hne => (h2.block k (Nat.lt_of_lt_of_le hk h1.size) hne).trans (h1.block k hk (by simp))⟩
theorem gset {w a : World} {row : Option Nat} (h : w.grownBy a row) {p : Addr} (hp : w.heap.size ≤ p.block) (u : Value) : w.grownBy (a.setCell p u) row := by
  refine ⟨h.os, h.tape, h.output, by have := h.size; simpa [World.setCell] using this, fun k hk hne => ?_⟩
  rw [Below.heap_setCell _ _ _ _ (show k ≠ p.block by omega)]
  exact h.block k hk hne
theorem Few.block {w w' : World} {F k C : Nat} {o : List Int} (h : Few w F k C o) (hb : w'.heap[F]? = w.heap[F]?) : Few w' F k C o := by
  refine ⟨h.1, ?_⟩
  rcases h.2 with ⟨h', _⟩ | ⟨g, cap, cur, hv, hg, hh, r⟩
  · simp at h'
  · have hv' := hv
    simp only [Value.slice.injEq, Option.some.injEq, Addr.mk.injEq, and_true, true_and] at hv'
    exact .inr ⟨g, cap, cur, hv, hg, by rw [← hv'.1] at hh ⊢; exact hb.trans hh, r⟩

set_option maxRecDepth 100000 in
set_option maxHeartbeats 2000000 in
theorem add_few_old (F k C : Nat) (o : List Int) (x : Int) (w : World) (hF : Few w F k C o) (hk : k ≤ 65536) (hx : x ∈ o) :
    Calls Try.prog 14 #[.agg #[(.slice (some ⟨F, 0, none⟩) k C), .map none], .int .u64 x] w fun e w' => e = .returned (.tuple #[.agg #[(.slice (some ⟨F, 0, none⟩) k C), .map none], .bool false]) ∧ w.grownBy w' none := by
  have qm := fun (W : World) (r : Option Nat) => run_eql_map_nil (P := Try.prog) W 34 35 4 r Try.underlying34
  have HF := hid hF
  have HX := hid hx
  clear hF hx
  go_enter Try.func14, Try.ntmps14
  go_wp2_with fail
  have IN := hid (in_start w (.slice (some ⟨F, 0, none⟩) k C) (.map none))
  generalize (w.alloc (.cells #[(.slice (some ⟨F, 0, none⟩) k C), .map none] 43)).alloc (.cells #[.slice none 0 0, .map none] 43) = W at IN ⊢
  have FW := hid (IN.out.few HF.out)
  obtain ⟨s0, s1, sf0, sf1⟩ := row2 IN.out.s
  obtain ⟨r0, r1, rf0, rf1⟩ := row2 IN.out.r
  go_loop [16] (fun i => ∃ q : Nat, q ≤ k ∧ i = .int .i64 (q : Int) ∧ ∀ j, j < q → o.getD j 0 ≠ x) (fun i => k - (intOf i).toNat)
  case atStart => exact ⟨0, Nat.zero_le _, rfl, fun j hj => absurd hj (Nat.not_lt_zero _)⟩
  case round =>
    obtain ⟨q, hq, rfl, hne⟩ := hrel
    have HNE := hid hne
    clear hne
    by_cases hlt : q < k
    · obtain ⟨y, hy⟩ : ∃ y, y = o.getD q 0 := ⟨_, rfl⟩
      have c1 : W.cell? ⟨F, q, none⟩ = some (.int .u64 y) := by rw [hy]; exact FW.out.cell hlt
      have HY := hid hy
      clear hy
      have j0 : (0 : Int) ≤ (q : Int) := by omega
      have j1 : (q : Int) < (k : Int) := by omega
      cases hxy : (y == x)
      · go_wp2
        go_round
        case rel =>
          refine ⟨q + 1, by omega, by go_num, fun j hj => ?_⟩
          by_cases e : j = q
          · subst e; rw [← HY.out]; simpa using hxy
          · exact HNE.out j (by omega)
        case measure => simp [intOf]; omega
      · have OW := out_world (a := (.slice (some ⟨F, 0, none⟩) k C)) (b := .map none) IN.out.r
        obtain ⟨f0, f1, _, _⟩ := row2 OW.1
        clear OW
        go_wp2
        exact bodyPost_ret (v := .tuple #[.agg #[(.slice (some ⟨F, 0, none⟩) k C), .map none], .bool false]) (by simp [results, Try.results14, go_sem, f0, f1]) rfl ⟨rfl, out_grown IN.out.g⟩
    · exfalso
      obtain ⟨j, hj, e⟩ := List.getElem_of_mem HX.out
      have hl := FW.out.len
      refine HNE.out j (by omega) ?_
      rw [List.getD_eq_getElem?_getD, List.getElem?_eq_getElem hj, Option.getD_some, e]

set_option maxRecDepth 100000 in
set_option maxHeartbeats 2000000 in
theorem add_few_new (F k C : Nat) (o : List Int) (x : Int) (w : World) (hF : Few w F k C o) (hC : C ≤ 65536) (hk : k < C) (hx : x ∉ o) :
    Calls Try.prog 14 #[.agg #[(.slice (some ⟨F, 0, none⟩) k C), .map none], .int .u64 x] w fun e w' => e = .returned (.tuple #[.agg #[.slice (some ⟨F, 0, none⟩) (k + 1) C, .map none], .bool true]) ∧ w.grownBy w' (some F) ∧ Few w' F (k + 1) C (o ++ [x]) := by
  have qm := fun (W : World) (r : Option Nat) => run_eql_map_nil (P := Try.prog) W 34 35 4 r Try.underlying34
  obtain ⟨i0, hi, hz0, hz1, hz2⟩ := info_parts Try.info35
  have HF := hid hF
  have HX := hid hx
  clear hF hx
  go_enter Try.func14, Try.ntmps14
  go_wp2_with fail
  have IN := hid (in_start w (.slice (some ⟨F, 0, none⟩) k C) (.map none))
  generalize (w.alloc (.cells #[(.slice (some ⟨F, 0, none⟩) k C), .map none] 43)).alloc (.cells #[.slice none 0 0, .map none] 43) = W at IN ⊢
  have FW := hid (IN.out.few HF.out)
  obtain ⟨s0, s1, sf0, sf1⟩ := row2 IN.out.s
  obtain ⟨r0, r1, rf0, rf1⟩ := row2 IN.out.r
  go_loop [16] (fun i => ∃ q : Nat, q ≤ k ∧ i = .int .i64 (q : Int) ∧ ∀ j, j < q → o.getD j 0 ≠ x) (fun i => k - (intOf i).toNat)
  case atStart => exact ⟨0, Nat.zero_le _, rfl, fun j hj => absurd hj (Nat.not_lt_zero _)⟩
  case round =>
    obtain ⟨q, hq, rfl, hne⟩ := hrel
    have HNE := hid hne
    clear hne
    by_cases hlt : q < k
    · obtain ⟨y, hy⟩ : ∃ y, y = o.getD q 0 := ⟨_, rfl⟩
      have c1 : W.cell? ⟨F, q, none⟩ = some (.int .u64 y) := by rw [hy]; exact FW.out.cell hlt
      have HY := hid hy
      clear hy
      have j0 : (0 : Int) ≤ (q : Int) := by omega
      have j1 : (q : Int) < (k : Int) := by omega
      cases hxy : (y == x)
      · go_wp2
        go_round
        case rel =>
          refine ⟨q + 1, by omega, by go_num, fun j hj => ?_⟩
          by_cases e : j = q
          · subst e; rw [← HY.out]; simpa using hxy
          · exact HNE.out j (by omega)
        case measure => simp [intOf]; omega
      · exfalso
        refine HX.out ?_
        have e : y = x := by simpa using hxy
        rw [← e, HY.out, List.getD_eq_getElem?_getD, List.getElem?_eq_getElem (by have := FW.out.len; omega)]
        exact List.getElem_mem _
    · have c2 : (k : Int) < (C : Int) := by omega
      have hFs : F ≠ w.heap.size := by have := HF.out.lt; omega
      have hFr : F ≠ w.heap.size + 1 := by have := HF.out.lt; omega
      go_wp2_with (at_builtin; refine wpList_append_fits _ rfl _ _ 32 rfl 0 35 i0 1 Try.underlying32 hi hz1 F k C (o.map (Value.int .u64)) rfl (World.ownsRow.alloc FW.out _) ⟨W.heap.size, 0, none⟩ 1 1 [.int .u64 x] rfl rfl (cell_one_new _ _ _) (ints_oneCell .u64 [x]) (by omega) ?_; intro w3 hown3 hgr3; have HO3 := hid hown3; have T1 : Hid (w3.heap[w.heap.size]? = some (.cells #[(.slice (some ⟨F, 0, none⟩) k C), .map none] 43 (0, 0))) := (hgr3.block _ (by have := lt_of IN.out.s; simp; omega) (by simp; omega)).trans ((al1 _ _ _ (lt_of IN.out.s)).trans IN.out.s); have T2 : Hid (w3.heap[w.heap.size + 1]? = some (.cells #[.slice none 0 0, .map none] 43 (0, 0))) := (hgr3.block _ (by have := lt_of IN.out.r; simp; omega) (by simp; omega)).trans ((al1 _ _ _ (lt_of IN.out.r)).trans IN.out.r); have HG3 := hid hgr3; obtain ⟨t0, t1, tf0, tf1⟩ := row2 T1.out; obtain ⟨v0, v1, vf0, vf1⟩ := row2 T2.out; clear hown3 hgr3)
      have T2' : Hid ((w3.setCell ⟨w.heap.size, 0, none⟩ (.slice (some ⟨F, 0, none⟩) (k + 1) C)).heap[w.heap.size + 1]? = some (.cells #[.slice none 0 0, .map none] 43 (0, 0))) := (Below.heap_setCell _ _ _ _ (show w.heap.size + 1 ≠ w.heap.size by omega)).trans T2.out
      have OW := out_world (a := .slice (some ⟨F, 0, none⟩) (k + 1) C) (b := .map none) T2'.out
      obtain ⟨f0, f1, _, _⟩ := row2 OW.1
      refine bodyPost_ret (v := .tuple #[.agg #[.slice (some ⟨F, 0, none⟩) (k + 1) C, .map none], .bool true]) (by simp [results, Try.results14, go_sem, f0, f1]) rfl ⟨rfl, out_grown (gset (gt IN.out.g (gt (World.grownBy_alloc _ _ none) HG3.out)) (Nat.le_refl _) _), ?_⟩
      have hfew : Few w3 F (k + 1) C (o ++ [x]) := by
        have := HO3.out
        unfold Few
        simpa using this
      exact hfew.block ((OW.2 F hFr).trans (Below.heap_setCell _ _ _ _ hFs))

theorem setf_nil (kl : Lit) : setf [] kl = none := by
  unfold setf
  split
  · simp
  · rfl
theorem take_snoc_int (zs : List Int) (k : Nat) (h : k < zs.length) : zs.take (k + 1) = zs.take k ++ [zs.getD k 0] := by
  rw [List.take_succ_eq_append_getElem h]; simp [h]
theorem not_before {o : List Int} (hd : o.Nodup) {q : Nat} (h : q < o.length) : o.getD q 0 ∉ o.take q := by
  intro hm
  rw [List.getD_eq_getElem?_getD, List.getElem?_eq_getElem h, Option.getD_some] at hm
  obtain ⟨j, hj, e⟩ := List.getElem_of_mem hm
  rw [List.length_take] at hj
  rw [List.getElem_take] at e
  have := (List.getElem_inj hd).1 e
  omega

/-- the set while the map is filled -/
structure Fil (w W : World) (F k C M : Nat) (o : List Int) (p : List Int) : Prop where
  s : W.heap[w.heap.size]? = some (.cells #[(.slice (some ⟨F, 0, none⟩) k C), .map (some M)] 43 (0, 0))
  r : W.heap[w.heap.size + 1]? = some (.cells #[.slice none 0 0, .map none] 43 (0, 0))
  g : w.grownBy W none
  few : Few W F k C o
  m : MapIs Try.prog 35 W M (setf p) p.length
  hM : w.heap.size ≤ M
theorem Fil.ne {w W : World} {F k C M : Nat} {o p : List Int} (h : Fil w W F k C M o p) : M ≠ w.heap.size ∧ M ≠ w.heap.size + 1 ∧ M ≠ F := by
  obtain ⟨es, cl, hm⟩ := h.m.isMapBlock
  refine ⟨fun e => ?_, fun e => ?_, fun e => ?_⟩
  · have := h.s; rw [← e, hm] at this; simp at this
  · have := h.r; rw [← e, hm] at this; simp at this
  · obtain ⟨cur, hc⟩ := h.few.isRow
    rw [← e, hm] at hc; simp at hc
theorem Fil.store {w W : World} {F k C M : Nat} {o p : List Int} (h : Fil w W F k C M o p) {y : Int} (hy : U y) (hn : y ∉ p) (hp : p.length ≤ 65536) :
    ∃ w', (Instr.mapUpdate 34 (.map (some M)) (.int .u64 y) (.bool true)).run Try.prog W = .ok () w' ∧ Fil w w' F k C M o (p ++ [y]) := by
  obtain ⟨e1, e2, e3⟩ := h.ne
  obtain ⟨w', hrun, hm, hg, hsz⟩ := h.m.store keyed35 Try.underlying34 (by unfold maxLen; omega) (kl := .int .u64 y) trivial (key_u y hy) (.bool true) (setf_snoc p y).1 (setf_snoc p y).2
  have hf : setf p (.int .u64 y) = none := by simp [setf, hn]
  rw [hf] at hm
  refine ⟨w', hrun, (hg.block _ (lt_of h.s) (by simpa using e1.symm)).trans h.s, (hg.block _ (lt_of h.r) (by simpa using e2.symm)).trans h.r, ?_, h.few.kept hg (by simpa using e3), by simpa using hm, h.hM⟩
  refine ⟨hg.os.trans h.g.os, hg.tape.trans h.g.tape, hg.output.trans h.g.output, Nat.le_trans h.g.size hg.size, fun j hj hne => ?_⟩
  have := h.hM
  exact (hg.block j (Nat.lt_of_lt_of_le hj h.g.size) (by simp; omega)).trans (h.g.block j hj hne)

set_option maxRecDepth 100000 in
set_option maxHeartbeats 4000000 in
theorem add_full (F k C : Nat) (o : List Int) (x : Int) (w : World) (hF : Few w F k C o) (hC : C ≤ 65536) (hk : k = C) (hx : x ∉ o) (hd : o.Nodup) (hu : ∀ y ∈ o, U y) (hux : U x) :
    Calls Try.prog 14 #[.agg #[(.slice (some ⟨F, 0, none⟩) k C), .map none], .int .u64 x] w fun e w' => ∃ M, e = .returned (.tuple #[.agg #[(.slice (some ⟨F, 0, none⟩) k C), .map (some M)], .bool true]) ∧ w.grownBy w' none ∧ w.heap.size ≤ M ∧ MapIs Try.prog 35 w' M (setf (o ++ [x])) (o.length + 1) := by
  have qm := fun (W : World) (r : Option Nat) => run_eql_map_nil (P := Try.prog) W 34 35 4 r Try.underlying34
  have HF := hid hF
  have HX := hid hx
  have HD := hid hd
  have HU := hid hu
  have HUX := hid hux
  have hkC : (C : Int) ≤ (k : Int) := by omega
  have hk6 : k ≤ 65536 := by omega
  clear hF hx hd hu hux hk
  go_enter Try.func14, Try.ntmps14
  go_wp2_with fail
  have IN := hid (in_start w (.slice (some ⟨F, 0, none⟩) k C) (.map none))
  generalize (w.alloc (.cells #[(.slice (some ⟨F, 0, none⟩) k C), .map none] 43)).alloc (.cells #[.slice none 0 0, .map none] 43) = W at IN ⊢
  have FW := hid (IN.out.few HF.out)
  obtain ⟨s0, s1, sf0, sf1⟩ := row2 IN.out.s
  obtain ⟨r0, r1, rf0, rf1⟩ := row2 IN.out.r
  go_loop [16] (fun i => ∃ q : Nat, q ≤ k ∧ i = .int .i64 (q : Int) ∧ ∀ j, j < q → o.getD j 0 ≠ x) (fun i => k - (intOf i).toNat)
  case atStart => exact ⟨0, Nat.zero_le _, rfl, fun j hj => absurd hj (Nat.not_lt_zero _)⟩
  case round =>
    obtain ⟨q, hq, rfl, hne⟩ := hrel
    have HNE := hid hne
    clear hne
    by_cases hlt : q < k
    · obtain ⟨y, hy⟩ : ∃ y, y = o.getD q 0 := ⟨_, rfl⟩
      have c1 : W.cell? ⟨F, q, none⟩ = some (.int .u64 y) := by rw [hy]; exact FW.out.cell hlt
      have HY := hid hy
      clear hy
      have j0 : (0 : Int) ≤ (q : Int) := by omega
      have j1 : (q : Int) < (k : Int) := by omega
      cases hxy : (y == x)
      · go_wp2
        go_round
        case rel =>
          refine ⟨q + 1, by omega, by go_num, fun j hj => ?_⟩
          by_cases e : j = q
          · subst e; rw [← HY.out]; simpa using hxy
          · exact HNE.out j (by omega)
        case measure => simp [intOf]; omega
      · exfalso
        refine HX.out ?_
        have e : y = x := by simpa using hxy
        rw [← e, HY.out, List.getD_eq_getElem?_getD, List.getElem?_eq_getElem (by have := FW.out.len; omega)]
        exact List.getElem_mem _
    · have hmm := fun n W => run_mm (P := Try.prog) Try.underlying34 .i64 n W
      clear HNE
      have lW : w.heap.size < W.heap.size := lt_of IN.out.s
      have lW1 : w.heap.size + 1 < W.heap.size := lt_of IN.out.r
      have FL : Hid (Fil w ((W.setCell ⟨w.heap.size, 1, none⟩ (.map (some W.heap.size))).alloc (.map #[] 0)) F k C W.heap.size o []) := by
        have hFh : F ≠ w.heap.size := by have := HF.out.lt; omega
        have hsz : (W.setCell ⟨w.heap.size, 1, none⟩ (.map (some W.heap.size))).heap.size = W.heap.size := by simp [World.setCell]
        have e1 : (W.setCell ⟨w.heap.size, 1, none⟩ (.map (some W.heap.size))).heap[w.heap.size]? = some (.cells #[(.slice (some ⟨F, 0, none⟩) k C), .map (some W.heap.size)] 43 (0, 0)) := heap_setCell_same W w.heap.size 1 _ 43 _ IN.out.s
        refine ⟨(al1 _ _ _ (by rw [hsz]; exact lW)).trans e1, ?_, gt (gset IN.out.g (Nat.le_refl _) _) (World.grownBy_alloc _ _ none), ?_, ?_, Nat.le_of_lt lW⟩
        · exact (al1 _ _ _ (by rw [hsz]; exact lW1)).trans ((Below.heap_setCell _ _ _ _ (show w.heap.size + 1 ≠ w.heap.size by omega)).trans IN.out.r)
        · exact FW.out.block ((al1 _ _ _ (by rw [hsz]; exact FW.out.lt)).trans (Below.heap_setCell _ _ _ _ hFh))
        · have := made (W.setCell ⟨w.heap.size, 1, none⟩ (.map (some W.heap.size))) Try.prog 35
          rw [hsz] at this
          exact this.congr fun kl _ => setf_nil kl
      go_wp2_with fail
      generalize (W.setCell ⟨w.heap.size, 1, none⟩ (.map (some W.heap.size))).alloc (.map #[] 0) = W2 at FL ⊢
      generalize W.heap.size = M at FL ⊢
      have HFl := hid FW.out.len
      clear IN FW s0 s1 sf0 sf1 r0 r1 rf0 rf1 lW lW1 hmm
      go_loopw [48] (fun i wv => ∃ q : Nat, q ≤ k ∧ i = .int .i64 (q : Int) ∧ Fil w wv F k C M o (o.take q)) (fun i _ => k - (intOf i).toNat)
      case atStart => exact ⟨0, Nat.zero_le _, rfl, by rw [List.take_zero]; exact FL.out⟩
      case round =>
        obtain ⟨q, hq, rfl, hfl⟩ := hrel
        clear FL
        by_cases hlt : q < k
        · obtain ⟨y, hy⟩ : ∃ y, y = o.getD q 0 := ⟨_, rfl⟩
          have c1 : wr.cell? ⟨F, q, none⟩ = some (.int .u64 y) := by rw [hy]; exact hfl.few.cell hlt
          have j0 : (0 : Int) ≤ (q : Int) := by omega
          have j1 : (q : Int) < (k : Int) := by omega
          have hql : q < o.length := by rw [HFl.out]; exact hlt
          have hyo : y ∈ o := by rw [hy, List.getD_eq_getElem?_getD, List.getElem?_eq_getElem hql]; exact List.getElem_mem _
          obtain ⟨w2, hst, hfl2⟩ := hfl.store (HU.out y hyo) (by rw [hy]; exact not_before HD.out hql) (by simp; omega)
          obtain ⟨a0, a1, _, _⟩ := row2 hfl.s
          have F2 : Hid (Fil w w2 F k C M o (o.take (q + 1))) := by
            show Fil _ _ _ _ _ _ _ _
            rw [take_snoc_int o q hql, ← hy]; exact hfl2
          clear hfl hfl2 hy hyo hql
          go_wp2
          go_roundw
          case rel => exact ⟨q + 1, by omega, by go_num, F2.out⟩
          case measure => simp [intOf]; omega
        · have hqk : q = k := by omega
          rw [hqk, List.take_of_length_le (by rw [HFl.out]; exact Nat.le_refl _)] at hfl
          have hlk : (Instr.lookup 34 (.map (some M)) (.int .u64 x) false).run Try.prog wr = .ok (.bool false) wr := by
            have := hfl.m.look keyed35 Try.underlying34 (zero4 wr) (kl := .int .u64 x) trivial (key_u x HUX.out)
            rw [this]
            simp [setf, HX.out]
          obtain ⟨w2, hst, hfl2⟩ := hfl.store HUX.out HX.out (by rw [HFl.out]; exact hk6)
          obtain ⟨a0, a1, _, _⟩ := row2 hfl.s
          obtain ⟨b0, b1, _, _⟩ := row2 hfl2.s
          obtain ⟨d0, d1, df0, df1⟩ := row2 hfl2.r
          have OW := out_world (a := (.slice (some ⟨F, 0, none⟩) k C)) (b := .map (some M)) hfl2.r
          obtain ⟨f0, f1, _, _⟩ := row2 OW.1
          have F2 := hid hfl2
          have HO := hid OW
          clear hfl hfl2 OW
          go_wp2
          refine bodyPost_ret (v := .tuple #[.agg #[(.slice (some ⟨F, 0, none⟩) k C), .map (some M)], .bool true]) (by simp [results, Try.results14, go_sem, f0, f1]) rfl ⟨M, rfl, out_grown F2.out.g, F2.out.hM, ?_⟩
          have := F2.out.m.block (HO.out.2 M F2.out.ne.2.1)
          simpa using this

set_option maxRecDepth 100000 in
set_option maxHeartbeats 2000000 in
theorem add_many_old (F k C M : Nat) (o : List Int) (x : Int) (w : World) (hm : MapIs Try.prog 35 w M (setf o) o.length) (hx : x ∈ o) (hux : U x) :
    Calls Try.prog 14 #[.agg #[(.slice (some ⟨F, 0, none⟩) k C), .map (some M)], .int .u64 x] w fun e w' => e = .returned (.tuple #[.agg #[(.slice (some ⟨F, 0, none⟩) k C), .map (some M)], .bool false]) ∧ w.grownBy w' none := by
  have qm := fun (W : World) (r : Option Nat) => run_eql_map_nil (P := Try.prog) W 34 35 4 r Try.underlying34
  have IN := hid (in_start w (.slice (some ⟨F, 0, none⟩) k C) (.map (some M)))
  have hlk : (Instr.lookup 34 (.map (some M)) (.int .u64 x) false).run Try.prog ((w.alloc (.cells #[(.slice (some ⟨F, 0, none⟩) k C), .map (some M)] 43)).alloc (.cells #[.slice none 0 0, .map none] 43)) = .ok (.bool true) ((w.alloc (.cells #[(.slice (some ⟨F, 0, none⟩) k C), .map (some M)] 43)).alloc (.cells #[.slice none 0 0, .map none] 43)) := by
    have hm2 := hm.block (IN.out.g.block M hm.lt (by simp))
    have := hm2.look keyed35 Try.underlying34 (zero4 _) (kl := .int .u64 x) trivial (key_u x hux)
    rw [this]
    simp [setf, hx]
  clear hx hux
  go_enter Try.func14, Try.ntmps14
  clear hm IN
  go_wp2
  exact bodyPost_ret (v := .tuple #[.agg #[(.slice (some ⟨F, 0, none⟩) k C), .map (some M)], .bool false]) (by simp [results, Try.results14, go_sem]) rfl ⟨rfl, (World.grownBy_alloc _ _ none).trans (World.grownBy_alloc _ _ none)⟩

set_option maxRecDepth 100000 in
set_option maxHeartbeats 2000000 in
theorem add_many_new (F k C M : Nat) (o : List Int) (x : Int) (w : World) (hm : MapIs Try.prog 35 w M (setf o) o.length) (hx : x ∉ o) (hux : U x) (ho : o.length ≤ 65536) :
    Calls Try.prog 14 #[.agg #[(.slice (some ⟨F, 0, none⟩) k C), .map (some M)], .int .u64 x] w fun e w' => e = .returned (.tuple #[.agg #[(.slice (some ⟨F, 0, none⟩) k C), .map (some M)], .bool true]) ∧ w.grownBy w' (some M) ∧ MapIs Try.prog 35 w' M (setf (o ++ [x])) (o.length + 1) := by
  have qm := fun (W : World) (r : Option Nat) => run_eql_map_nil (P := Try.prog) W 34 35 4 r Try.underlying34
  have IN := hid (in_start w (.slice (some ⟨F, 0, none⟩) k C) (.map (some M)))
  have hm2 := hm.block (IN.out.g.block M hm.lt (by simp))
  have hlk : (Instr.lookup 34 (.map (some M)) (.int .u64 x) false).run Try.prog ((w.alloc (.cells #[(.slice (some ⟨F, 0, none⟩) k C), .map (some M)] 43)).alloc (.cells #[.slice none 0 0, .map none] 43)) = .ok (.bool false) ((w.alloc (.cells #[(.slice (some ⟨F, 0, none⟩) k C), .map (some M)] 43)).alloc (.cells #[.slice none 0 0, .map none] 43)) := by
    have := hm2.look keyed35 Try.underlying34 (zero4 _) (kl := .int .u64 x) trivial (key_u x hux)
    rw [this]
    simp [setf, hx]
  obtain ⟨w2, hst, hm3, hg3, _⟩ := hm2.store keyed35 Try.underlying34 (by unfold maxLen; omega) (kl := .int .u64 x) trivial (key_u x hux) (.bool true) (setf_snoc o x).1 (setf_snoc o x).2
  have hf : setf o (.int .u64 x) = none := by simp [setf, hx]
  rw [hf] at hm3
  have hMl := hm.lt
  have t1 : w2.heap[w.heap.size]? = some (.cells #[(.slice (some ⟨F, 0, none⟩) k C), .map (some M)] 43 (0, 0)) := (hg3.block _ (lt_of IN.out.s) (by simp; omega)).trans IN.out.s
  have t2 : w2.heap[w.heap.size + 1]? = some (.cells #[.slice none 0 0, .map none] 43 (0, 0)) := (hg3.block _ (lt_of IN.out.r) (by simp; omega)).trans IN.out.r
  obtain ⟨b0, b1, _, _⟩ := row2 t1
  obtain ⟨d0, d1, df0, df1⟩ := row2 t2
  have OW := out_world (a := (.slice (some ⟨F, 0, none⟩) k C)) (b := .map (some M)) t2
  obtain ⟨f0, f1, _, _⟩ := row2 OW.1
  have HO := hid OW
  have HM3 := hid hm3
  have HG3 := hid hg3
  clear hm hm2 hm3 hg3 hx hux OW t1 t2 hf
  go_enter Try.func14, Try.ntmps14
  go_wp2
  refine bodyPost_ret (v := .tuple #[.agg #[(.slice (some ⟨F, 0, none⟩) k C), .map (some M)], .bool true]) (by simp [results, Try.results14, go_sem, f0, f1]) rfl ⟨rfl, out_grown (gt IN.out.g HG3.out), ?_⟩
  have := HM3.out.block (HO.out.2 M (by omega))
  simpa using this

end Go.Proofs.Qxb6603010a.St
