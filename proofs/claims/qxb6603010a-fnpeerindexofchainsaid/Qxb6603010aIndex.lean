import Derived.Test.Qxb6603010aBase
import Derived.Deep.DeepCutAuto
namespace Go.Proofs.Qxb6603010a.Pr
open Go.RowKit Go.Maps Mp

/-! ### the plain functions -/
/-- the nearest place from p on (below n) whose key is l -/
def nx (K : Nat → List UInt8) (n p : Nat) (l : List UInt8) : Option Nat := (List.range' p (n - p)).find? fun j => K j == l
theorem nx_end (K : Nat → List UInt8) (n : Nat) (l : List UInt8) : nx K n n l = none := by simp [nx]
theorem nx_step (K : Nat → List UInt8) {n p : Nat} (h : p < n) (l : List UInt8) : nx K n p l = if K p == l then some p else nx K n (p + 1) l := by
  unfold nx
  rw [show n - p = (n - (p + 1)) + 1 by omega, List.range'_succ, List.find?_cons]
  cases K p == l <;> rfl
theorem nx_some {K : Nat → List UInt8} {n p : Nat} {l : List UInt8} {j : Nat} (h : nx K n p l = some j) : p ≤ j ∧ j < n ∧ K j = l := by
  unfold nx at h
  have h1 := List.mem_of_find?_eq_some h
  have h2 := List.find?_some h
  rw [List.mem_range'_1] at h1
  exact ⟨h1.1, by omega, by simpa using h2⟩

def nval (K : Nat → List UInt8) (n i : Nat) : Int := match nx K n (i + 1) (K i) with | some j => (j : Int) | none => -1

/-- how many different keys -/
def lasts : List (List UInt8) → Nat
  | [] => 0
  | x :: r => (if x ∈ r then 0 else 1) + lasts r
theorem lasts_snoc (x : List UInt8) : ∀ L : List (List UInt8), lasts (L ++ [x]) = lasts L + (if x ∈ L then 0 else 1)
  | [] => rfl
  | y :: r => by
    have ih := lasts_snoc x r
    show (if y ∈ (r ++ [x]) then 0 else 1) + lasts (r ++ [x]) = (if y ∈ r then 0 else 1) + lasts r + (if x ∈ (y :: r) then 0 else 1)
    rw [ih]
    by_cases e : y = x
    · subst e
      by_cases hr : y ∈ r <;> simp [hr] <;> omega
    · have e' : ¬ x = y := fun h => e h.symm
      by_cases h1 : y ∈ r <;> by_cases h2 : x ∈ r <;> simp [h1, h2, e, e'] <;> omega

def sfx (K : Nat → List UInt8) (n p : Nat) : List (List UInt8) := (List.range' p (n - p)).map K
theorem sfx_step (K : Nat → List UInt8) {n p : Nat} (h : p < n) : sfx K n p = K p :: sfx K n (p + 1) := by
  unfold sfx
  rw [show n - p = (n - (p + 1)) + 1 by omega, List.range'_succ]; rfl
theorem nx_isSome (K : Nat → List UInt8) (n p : Nat) (l : List UInt8) : (nx K n p l).isSome = true ↔ l ∈ sfx K n p := by
  unfold nx sfx
  rw [List.find?_isSome]
  simp only [List.mem_map, beq_iff_eq]
def cnt (K : Nat → List UInt8) (n p : Nat) : Nat := lasts (sfx K n p)
theorem cnt_step (K : Nat → List UInt8) {n p : Nat} (h : p < n) : cnt K n p = (if (nx K n (p + 1) (K p)).isSome then cnt K n (p + 1) else cnt K n (p + 1) + 1) := by
  unfold cnt
  rw [sfx_step K h]
  show (if K p ∈ sfx K n (p + 1) then 0 else 1) + lasts (sfx K n (p + 1)) = _
  by_cases hm : (nx K n (p + 1) (K p)).isSome = true
  · rw [if_pos hm, if_pos ((nx_isSome K n (p + 1) (K p)).1 hm)]; omega
  · rw [if_neg hm, if_neg (fun h => hm ((nx_isSome K n (p + 1) (K p)).2 h))]; omega
theorem cnt_le (K : Nat → List UInt8) (n : Nat) : ∀ k p, n - p = k → cnt K n p ≤ k := by
  intro k
  induction k with
  | zero => intro p h; unfold cnt sfx; rw [h]; exact Nat.le_refl _
  | succ k ih =>
    intro p h
    have := ih (p + 1) (by omega)
    rw [cnt_step K (show p < n by omega)]
    split <;> omega

def fmap (K : Nat → List UInt8) (n p : Nat) : Lit → Option Value
  | .string l => (nx K n p l).map fun (j : Nat) => Value.int .i64 (j : Int)
  | _ => none

theorem law9 : Keyed Try.prog 9 := string_keyed Try.underlying9
theorem zero3 (w : World) : (zeroValue 3).run Try.prog w = .ok (.int .i64 0) w := by kernel_rfl
theorem Try.info3 : (Try.prog.info? 3).map (fun i => (i.zero, i.size, i.bytes)) = some (some (.int .i64 0), 1, 8) := by kernel_rfl

/-! ### the rows that came in -/
structure Rw where
  a : Option Addr
  n : Nat
  c : Nat
  zs : List Int
def rw0 : Rw := ⟨none, 0, 0, []⟩
def R (rs : List Rw) (i : Nat) : Rw := rs.getD i rw0
def Byt (zs : List Int) : Prop := ∀ x ∈ zs, 0 ≤ x ∧ x ≤ 255
def Ok (rs : List Rw) : Prop := ∀ r ∈ rs, r.n ≤ maxLen ∧ Byt r.zs
theorem R_mem {rs : List Rw} {i : Nat} (h : i < rs.length) : R rs i ∈ rs := by
  unfold R
  rw [List.getD_eq_getElem?_getD, List.getElem?_eq_getElem h]; exact List.getElem_mem _

/-- the rows lie at b, off; all of it below B -/
def RowsAt (B : Nat) (w : World) (ao : Option Addr) (rs : List Rw) : Prop :=
  0 < rs.length → ∃ b off, ao = some ⟨b, off, none⟩ ∧ b < B ∧ ∀ i, i < rs.length → w.cell? ⟨b, off + i, none⟩ = some (.slice (R rs i).a (R rs i).n (R rs i).c) ∧ Rd w (R rs i).a (R rs i).n (R rs i).zs ∧
    (0 < (R rs i).n → ∃ x, (R rs i).a = some x ∧ x.block < B)

theorem RowsAt.below {B : Nat} {w w' : World} {ao : Option Addr} {rs : List Rw} (h : RowsAt B w ao rs) (hb : Below B w w') : RowsAt B w' ao rs := by
  intro h0
  obtain ⟨b, off, e, hB, h⟩ := h h0
  refine ⟨b, off, e, hB, fun i hi => ?_⟩
  obtain ⟨h1, h2, h3⟩ := h i hi
  refine ⟨by rw [hb.cell hB]; exact h1, ⟨h2.1, h2.2.1, fun hn => ?_⟩, h3⟩
  obtain ⟨b', o', e', hc⟩ := h2.2.2 hn
  obtain ⟨x, ex, hx⟩ := h3 hn
  rw [e'] at ex
  cases ex
  exact ⟨b', o', e', fun j hj => by rw [hb.cell (p := ⟨b', o' + j, none⟩) hx]; exact hc j hj⟩

def key (rs : List Rw) (i : Nat) : List UInt8 := (strOfNums (R rs i).zs).data.toList

theorem conv_of {w : World} {a : Option Addr} {n : Nat} {zs : List Int} (h : Rd w a n zs) (c : Nat) : (convert 24 9 (.slice a n c)).run Try.prog w = .ok (.string (strOfNums zs)) w := by
  obtain ⟨hl, hnil, hc⟩ := h
  by_cases h0 : n = 0
  · subst h0
    obtain rfl : zs = [] := List.eq_nil_of_length_eq_zero hl
    cases a with
    | none => exact run_convert_bytes_nil (P := Try.prog) w 24 5 Try.underlying24 Try.underlying5 0 c 9 Try.underlying9
    | some x =>
      rw [run_convert_bytes_string w 24 9 5 (some x) 0 c Try.underlying24 Try.underlying5 Try.underlying9]
      have hld := run_loadCells_list (P := Try.prog) w x [] (fun j v hj => by simp at hj)
      exact run_bytesToString (P := Try.prog) w x 0 c [] hld
  · obtain ⟨b, off, rfl, hcell⟩ := hc (by omega)
    exact run_convert_bytes_arg (P := Try.prog) w 24 5 Try.underlying24 Try.underlying5 b off n c zs hl hcell 9 Try.underlying9

/-- a row of ints, known whole -/
def IRow (w : World) (g : Nat) (zs : List Int) : Prop := w.heap[g]? = some (.cells (zs.map (Value.int .i64)).toArray 3 (0, 0))
theorem irow_cell {w : World} {g : Nat} {zs : List Int} (h : IRow w g zs) {i : Nat} (hi : i < zs.length) : w.cell? ⟨g, i, none⟩ = some (.int .i64 (zs.getD i 0)) := by
  rw [cell_of_row w g i _ 3 (0, 0) h]
  simp [List.getElem?_eq_getElem hi]
theorem irow_free {w : World} {g : Nat} {zs : List Int} (h : IRow w g zs) (i : Nat) : w.frozen? ⟨g, i, none⟩ = false := frozen_of_row w g i _ 3 h
theorem irow_set {w : World} {g : Nat} {zs : List Int} (h : IRow w g zs) (i : Nat) (v : Int) : IRow (w.setCell ⟨g, i, none⟩ (.int .i64 v)) g (zs.set i v) := by
  have := heap_setCell_same w g i _ 3 (.int .i64 v) h
  show _ = _
  rw [this]
  simp [List.map_set]
theorem irow_made {w : World} {n g : Nat} (h : w.heap[g]? = some (.cells (madeCells #[.int .i64 0] n) 3 (0, 0))) : IRow w g (List.replicate n 0) := by
  have e : madeCells #[Value.int .i64 0] n = ((List.replicate n (0 : Int)).map (Value.int .i64)).toArray := by
    rw [← Array.toList_inj, toList_madeCells_one]; simp
  show _ = _
  rw [h, e]

theorem four (w : World) (a b c d : Obj) : ((((w.alloc a).alloc b).alloc c).alloc d).heap[w.heap.size]? = some a ∧ ((((w.alloc a).alloc b).alloc c).alloc d).heap[w.heap.size + 1]? = some b ∧
    ((((w.alloc a).alloc b).alloc c).alloc d).heap[w.heap.size + 1 + 1]? = some c ∧ ((((w.alloc a).alloc b).alloc c).alloc d).heap[w.heap.size + 1 + 1 + 1]? = some d ∧ Below w.heap.size w ((((w.alloc a).alloc b).alloc c).alloc d) := by
  have s1 : (w.alloc a).heap.size = w.heap.size + 1 := by simp
  have s2 : ((w.alloc a).alloc b).heap.size = w.heap.size + 1 + 1 := by simp
  have s3 : (((w.alloc a).alloc b).alloc c).heap.size = w.heap.size + 1 + 1 + 1 := by simp
  refine ⟨?_, ?_, ?_, ?_, ((((Below.refl _ _).alloc (Nat.le_refl _) _).alloc (by omega) _).alloc (by omega) _).alloc (by omega) _⟩
  · rw [al1 _ _ _ (by omega), al1 _ _ _ (by omega), al1 _ _ _ (by omega)]; exact heap_alloc_new w a
  · rw [al1 _ _ _ (by omega), al1 _ _ _ (by omega), ← s1]; exact heap_alloc_new _ b
  · rw [al1 _ _ _ (by omega), ← s2]; exact heap_alloc_new _ c
  · rw [← s3]; exact heap_alloc_new _ d

theorem row2 {W : World} {L : Nat} {a b : Value} {t : TypeId} (h : W.heap[L]? = some (.cells #[a, b] t (0, 0))) :
    W.cell? ⟨L, 0, none⟩ = some a ∧ W.cell? ⟨L, 1, none⟩ = some b ∧ W.frozen? ⟨L, 0, none⟩ = false ∧ W.frozen? ⟨L, 1, none⟩ = false := by
  refine ⟨?_, ?_, frozen_of_row W L 0 _ t h, frozen_of_row W L 1 _ t h⟩
  all_goals rw [cell_of_row W L _ _ t (0, 0) h]; rfl

/-- what lies behind the region that makes the index -/
def Made (h n : Nat) (w W : World) (X M G : Nat) : Prop :=
  (h < X ∧ h < M ∧ h < G) ∧ W.heap[X]? = some (.cells #[.map (some M), .slice (some ⟨G, 0, none⟩) n n] 40 (0, 0)) ∧ W.heap[M]? = some (.map #[] 0) ∧ IRow W G (List.replicate n 0) ∧
  W.heap[h]? = some (.cells #[.map none, .slice none 0 0] 40 (0, 0)) ∧ Below h w W

theorem made_any {n : Nat} {w : World} {a b c d : Obj} {X M G : Nat}
    (ha : a = .cells #[.map none, .slice none 0 0] 40)
    (hX : (X = w.heap.size + 1 ∧ b = .cells #[.map (some M), .slice (some ⟨G, 0, none⟩) n n] 40) ∨ (X = w.heap.size + 1 + 1 ∧ c = .cells #[.map (some M), .slice (some ⟨G, 0, none⟩) n n] 40) ∨ (X = w.heap.size + 1 + 1 + 1 ∧ d = .cells #[.map (some M), .slice (some ⟨G, 0, none⟩) n n] 40))
    (hM : (M = w.heap.size + 1 ∧ b = .map #[] 0) ∨ (M = w.heap.size + 1 + 1 ∧ c = .map #[] 0) ∨ (M = w.heap.size + 1 + 1 + 1 ∧ d = .map #[] 0))
    (hG : (G = w.heap.size + 1 ∧ b = .cells (madeCells #[.int .i64 0] n) 3) ∨ (G = w.heap.size + 1 + 1 ∧ c = .cells (madeCells #[.int .i64 0] n) 3) ∨ (G = w.heap.size + 1 + 1 + 1 ∧ d = .cells (madeCells #[.int .i64 0] n) 3)) :
    Made w.heap.size n w ((((w.alloc a).alloc b).alloc c).alloc d).drew X M G := by
  obtain ⟨f0, f1, f2, f3, hb⟩ := four w a b c d
  refine ⟨⟨?_, ?_, ?_⟩, ?_, ?_, irow_made ?_, ?_, hb.drew⟩
  · rcases hX with h | h | h <;> omega
  · rcases hM with h | h | h <;> omega
  · rcases hG with h | h | h <;> omega
  · rcases hX with ⟨rfl, rfl⟩ | ⟨rfl, rfl⟩ | ⟨rfl, rfl⟩ <;> assumption
  · rcases hM with ⟨rfl, rfl⟩ | ⟨rfl, rfl⟩ | ⟨rfl, rfl⟩ <;> assumption
  · rcases hG with ⟨rfl, rfl⟩ | ⟨rfl, rfl⟩ | ⟨rfl, rfl⟩ <;> assumption
  · rw [← ha]; exact f0

/-- the index after the places from p on -/
structure Inv (h n : Nat) (w W : World) (X M G : Nat) (K : Nat → List UInt8) (p : Nat) (zs : List Int) : Prop where
  hX : h < X
  hM : h < M
  hG : h < G
  x : W.heap[X]? = some (.cells #[.map (some M), .slice (some ⟨G, 0, none⟩) n n] 40 (0, 0))
  r : W.heap[h]? = some (.cells #[.map none, .slice none 0 0] 40 (0, 0))
  m : MapIs Try.prog 9 W M (fmap K n p) (cnt K n p)
  g : IRow W G zs
  len : zs.length = n
  val : ∀ i, p ≤ i → i < n → zs.getD i 0 = nval K n i
  b : Below h w W

theorem inv_start {h n : Nat} {w W : World} {X M G : Nat} (K : Nat → List UInt8) (H : Made h n w W X M G) : Inv h n w W X M G K n (List.replicate n 0) := by
  obtain ⟨⟨h1, h2, h3⟩, hx, hm, hg, hr, hb⟩ := H
  refine ⟨h1, h2, h3, hx, hr, ?_, hg, by simp, fun i _ _ => by omega, hb⟩
  have e : cnt K n n = 0 := by simp [cnt, sfx, lasts]
  rw [e]
  have hme : MapIs Try.prog 9 W M (fun _ => none) 0 := ⟨.map [], ⟨#[], 0, hm, ⟨by simp, MapKept.stamped_empty 0, by simp⟩, Nat.le_refl _, rfl⟩, rfl, fun _ _ => ⟨rfl, fun _ => rfl⟩⟩
  refine hme.congr fun kl _ => ?_
  cases kl <;> simp [fmap, nx_end]

theorem Inv.xg {h n : Nat} {w W : World} {X M G : Nat} {K : Nat → List UInt8} {p : Nat} {zs : List Int} (H : Inv h n w W X M G K p zs) : X ≠ G ∧ X ≠ M ∧ G ≠ M := by
  obtain ⟨es, cl, hm⟩ := H.m.isMapBlock
  refine ⟨fun e => ?_, fun e => ?_, fun e => ?_⟩
  · have a := H.x
    have b := H.g
    rw [e] at a
    unfold IRow at b
    rw [b] at a
    simp at a
  · have a := H.x
    rw [e, hm] at a
    simp at a
  · have a := H.g
    unfold IRow at a
    rw [e, hm] at a
    simp at a

theorem Inv.set {h n : Nat} {w W : World} {X M G : Nat} {K : Nat → List UInt8} {q : Nat} {zs : List Int} (H : Inv h n w W X M G K (q + 1) zs) (v : Int) :
    Inv h n w (W.setCell ⟨G, q, none⟩ (.int .i64 v)) X M G K (q + 1) (zs.set q v) := by
  obtain ⟨e1, e2, e3⟩ := H.xg
  have hGl := H.hG
  refine ⟨H.hX, H.hM, H.hG, (Below.heap_setCell _ _ _ _ e1).trans H.x, (Below.heap_setCell _ _ _ _ (show h ≠ G by omega)).trans H.r, H.m.block (Below.heap_setCell _ _ _ _ e3.symm), irow_set H.g q v, by simpa using H.len, fun i h1 h2 => ?_, H.b.setCell (by show h ≤ G; omega) _⟩
  rw [← H.val i h1 h2]
  simp [show ¬ q = i by omega]

theorem fmap_step {K : Nat → List UInt8} {n q : Nat} (h : q < n) : fmap K n q (.string (K q)) = some (.int .i64 (q : Int)) ∧ ∀ x, WideAt.IsKeyLit x → x ≠ .string (K q) → fmap K n q x = fmap K n (q + 1) x := by
  constructor
  · simp [fmap, nx_step K h]
  · intro x _ hx
    cases x <;> try rfl
    rename_i l _
    have : (K q == l) = false := by
      simp only [beq_eq_false_iff_ne, ne_eq]
      intro e; exact hx (by rw [e])
    simp [fmap, nx_step K h, this]

theorem Inv.store {h n : Nat} {w W : World} {X M G : Nat} {K : Nat → List UInt8} {q : Nat} {zs : List Int} (H : Inv h n w W X M G K (q + 1) zs) (hq : q < n) (hn : n ≤ 32768) (hv : zs.getD q 0 = nval K n q) {S : ByteArray} (hS : S.size ≤ maxLen) (hK : K q = S.data.toList) :
    ∃ w', (Instr.mapUpdate 25 (.map (some M)) (.string S) (.int .i64 (q : Int))).run Try.prog W = .ok () w' ∧ Inv h n w w' X M G K q zs := by
  obtain ⟨e1, e2, e3⟩ := H.xg
  have hkey : keyOf Try.prog 9 (.string S) = some (.string (K q)) := by rw [hK]; exact WideMaps.keyOf_string_mk Try.underlying9 hS
  have hc := cnt_le K n (n - (q + 1)) (q + 1) rfl
  obtain ⟨w', hrun, hm, hg, hsz⟩ := H.m.store law9 Try.underlying25 (by unfold maxLen; omega) (kl := .string (K q)) trivial hkey (.int .i64 (q : Int)) (fmap_step hq).1 (fmap_step hq).2
  refine ⟨w', hrun, H.hX, H.hM, H.hG, (hg.block X (lt_of H.x) (by simpa using e2)).trans H.x, (hg.block h (lt_of H.r) (by have := H.hM; simp; omega)).trans H.r, ?_, (hg.block G (lt_of H.g) (by simpa using e3)).trans H.g, H.len, fun i h1 h2 => ?_, H.b.grown hg (Nat.le_of_lt (lt_of H.r)) (fun k hk => by cases hk; exact Nat.le_of_lt H.hM)⟩
  · rw [cnt_step K hq]
    have e : (fmap K n (q + 1) (.string (K q))).isSome = (nx K n (q + 1) (K q)).isSome := by simp [fmap]
    rw [e] at hm
    exact hm
  · by_cases e : i = q
    · subst e; exact hv
    · exact H.val i (by omega) h2

theorem Inv.look {h n : Nat} {w W : World} {X M G : Nat} {K : Nat → List UInt8} {p q : Nat} {zs : List Int} (H : Inv h n w W X M G K p zs) {S : ByteArray} (hS : S.size ≤ maxLen) (hK : K q = S.data.toList) :
    (Instr.lookup 25 (.map (some M)) (.string S) true).run Try.prog W = .ok (.tuple #[(match nx K n p (K q) with | some j => Value.int .i64 (j : Int) | none => .int .i64 0), .bool (nx K n p (K q)).isSome]) W := by
  have hkey : keyOf Try.prog 9 (.string S) = some (.string (K q)) := by rw [hK]; exact WideMaps.keyOf_string_mk Try.underlying9 hS
  rw [H.m.look_ok law9 Try.underlying25 (zero3 W) (kl := .string (K q)) trivial hkey]
  simp only [fmap]
  cases nx K n p (K q) <;> rfl

set_option maxRecDepth 100000 in
set_option maxHeartbeats 3200000 in
theorem indexOf (ao : Option Addr) (n c : Nat) (rs : List Rw) (w : World) (hn : n ≤ 32768) (hz : rs.length = n) (hr : RowsAt w.heap.size w ao rs) (hok : Ok rs) :
    Calls Try.prog 13 #[.slice ao n c] w fun e w' => ∃ M G zs, e = .returned (.agg #[.map (some M), .slice (some ⟨G, 0, none⟩) n n]) ∧ Below w.heap.size w w' ∧ MapIs Try.prog 9 w' M (fmap (key rs) n 0) (cnt (key rs) n 0) ∧
      IRow w' G zs ∧ zs.length = n ∧ ∀ i, i < n → zs.getD i 0 = nval (key rs) n i := by
  have hmm := fun W => run_mm (P := Try.prog) Try.underlying25 .i64 (n : Int) W
  obtain ⟨i0, hi, hz0, hz1, hz2⟩ := info_parts Try.info3
  have hmk : ∀ W : World, (Instr.makeSlice 26 (.int .i64 (n : Int)) (.int .i64 (n : Int))).run Try.prog W = .ok (.slice (some ⟨W.heap.size, 0, none⟩) n n) (W.alloc (.cells (madeCells #[.int .i64 0] n) 3)) := by
    intro W
    have hr := run_make (P := Try.prog) W 26 3 i0 (.int .i64 0) Try.underlying26 hi hz0 .i64 .i64 n n (by omega) (Int.le_refl _) (by rw [hz2]; omega) (by omega)
    simp only [Int.toNat_natCast, hz1, Nat.mul_one] at hr
    exact hr
  have HR := hid hr
  have HO := hid hok
  have HZ := hid hz
  clear hi hz0 hz1 hz2 hr hok hz
  go_enter Try.func13, Try.ntmps13
  go_wp2_with fail
  go_cut [3] (fun x W => ∃ X M G, x = .pointer (some ⟨X, 0, none⟩) ∧ Made w.heap.size n w W X M G)
  case first =>
    go_region
    all_goals
      go_wp2
      go_meet
      case rel => exact ⟨_, _, _, rfl, made_any rfl (by first | exact .inl ⟨rfl, rfl⟩ | exact .inr (.inl ⟨rfl, rfl⟩) | exact .inr (.inr ⟨rfl, rfl⟩)) (by first | exact .inl ⟨rfl, rfl⟩ | exact .inr (.inl ⟨rfl, rfl⟩) | exact .inr (.inr ⟨rfl, rfl⟩)) (by first | exact .inl ⟨rfl, rfl⟩ | exact .inr (.inl ⟨rfl, rfl⟩) | exact .inr (.inr ⟨rfl, rfl⟩))⟩
  case rest =>
    obtain ⟨X, M, G, rfl, hmd⟩ := hcut
    have MD := hid (inv_start (key rs) hmd)
    clear hmd hmm hmk
    go_wp2_with fail
    go_loopw [4] (fun i wv => ∃ (p : Nat) (zs : List Int), p ≤ n ∧ i = .int .i64 ((p : Int) - 1) ∧ Inv w.heap.size n w wv X M G (key rs) p zs) (fun i _ => (intOf i + 1).toNat)
    case atStart => exact ⟨n, List.replicate n 0, Nat.le_refl _, rfl, MD.out⟩
    case round =>
      obtain ⟨p, zs, hp, rfl, hinv⟩ := hrel
      clear MD
      cases p with
      | zero =>
        obtain ⟨x0, x1, xf0, xf1⟩ := row2 hinv.x
        obtain ⟨r0, r1, rf0, rf1⟩ := row2 hinv.r
        have hne : X ≠ w.heap.size := by have := hinv.hX; omega
        have HI := hid hinv
        clear hinv
        have hF : ((wr.setCell ⟨w.heap.size, 0, none⟩ (.map (some M))).setCell ⟨w.heap.size, 1, none⟩ (.slice (some ⟨G, 0, none⟩) n n)).heap[w.heap.size]? = some (.cells #[.map (some M), .slice (some ⟨G, 0, none⟩) n n] 40 (0, 0)) :=
          heap_setCell_same _ w.heap.size 1 _ 40 _ (heap_setCell_same wr w.heap.size 0 _ 40 _ HI.out.r)
        obtain ⟨f0, f1, _, _⟩ := row2 hF
        have HF : Hid (∀ k, k ≠ w.heap.size → ((wr.setCell ⟨w.heap.size, 0, none⟩ (.map (some M))).setCell ⟨w.heap.size, 1, none⟩ (.slice (some ⟨G, 0, none⟩) n n)).heap[k]? = wr.heap[k]?) := by
          intro k hk
          rw [Below.heap_setCell _ _ _ _ hk, Below.heap_setCell _ _ _ _ hk]
        clear hF
        go_wp2
        refine bodyPost_ret (v := .agg #[.map (some M), .slice (some ⟨G, 0, none⟩) n n]) (by simp [results, Try.results13, go_sem, f0, f1]) rfl ⟨M, G, zs, rfl, ?_, ?_, ?_, HI.out.len, fun i hi => HI.out.val i (Nat.zero_le _) hi⟩
        · exact (HI.out.b.setCell (Nat.le_refl _) _).setCell (Nat.le_refl _) _
        · exact HI.out.m.block (HF.out M (by have := HI.out.hM; omega))
        · exact (HF.out G (by have := HI.out.hG; omega)).trans HI.out.g
      | succ q =>
        have eq : (((q + 1 : Nat) : Int) - 1) = (q : Int) := by omega
        rw [eq]
        clear eq
        obtain ⟨b, off, hao, hbB, hrow⟩ := HR.out (by rw [HZ.out]; omega)
        obtain ⟨k1, k2, _⟩ := hrow q (by rw [HZ.out]; omega)
        have hlt := World.block_lt_of_cell? w _ k1
        have c1 : wr.cell? ⟨b, off + q, none⟩ = some (.slice (R rs q).a (R rs q).n (R rs q).c) := (hinv.b.cell hlt).trans k1
        have hcv := conv_of (k2.below hinv.b (Nat.le_refl _)) (R rs q).c
        subst hao
        clear k1 k2 hrow
        obtain ⟨x0, x1, xf0, xf1⟩ := row2 hinv.x
        have g0 := irow_cell hinv.g (i := q) (by rw [hinv.len]; omega)
        have g1 := irow_free hinv.g q
        have I1 := hid (hinv.set (q := q) (-1))
        have hSz : Hid ((strOfNums (R rs q).zs).size ≤ maxLen) := by
          show _ ≤ _
          rw [strOfNums_size, (HR.out (by rw [HZ.out]; omega)).elim fun _ h => h.elim fun _ h => (h.2.2 q (by rw [HZ.out]; omega)).2.1.1]
          exact (HO.out _ (R_mem (by rw [HZ.out]; omega))).1
        have hl1 := I1.out.look (q := q) hSz.out rfl
        have i0 : (0 : Int) ≤ (q : Int) := by omega
        have i1 : (q : Int) < (n : Int) := by omega
        have xg := hinv.xg
        cases hnx : nx (key rs) n (q + 1) (key rs q) with
        | none =>
          rw [hnx] at hl1
          have hv : Hid ((zs.set q (-1)).getD q 0 = nval (key rs) n q) := by
            show _ = _
            unfold nval; rw [hnx]
            simp [hinv.len, show q < n by omega]
          obtain ⟨w2, hst, hinv2⟩ := I1.out.store (q := q) (by omega) hn hv.out hSz.out rfl
          have I2 := hid hinv2
          have hm := hid hinv.m
          have HI := hid hinv
          clear hinv hinv2 hnx
          go_wp2
          go_roundw
          case rel => exact ⟨q, zs.set q (-1), by omega, by go_num, I2.out⟩
          case measure => simp [intOf]
        | some j =>
          rw [hnx] at hl1
          have hv : Hid (((zs.set q (-1)).set q (j : Int)).getD q 0 = nval (key rs) n q) := by
            show _ = _
            unfold nval; rw [hnx]
            simp [hinv.len, show q < n by omega]
          have I3 := hid (I1.out.set (q := q) (j : Int))
          obtain ⟨w2, hst, hinv2⟩ := I3.out.store (q := q) (by omega) hn hv.out hSz.out rfl
          have I2 := hid hinv2
          have HI := hid hinv
          clear hinv hinv2 hnx
          go_wp2
          go_roundw
          case rel => exact ⟨q, _, by omega, by go_num, I2.out⟩
          case measure => simp [intOf]
end Go.Proofs.Qxb6603010a.Pr
