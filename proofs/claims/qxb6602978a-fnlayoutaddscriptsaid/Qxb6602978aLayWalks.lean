import Derived.Test.Qxb6602978aRows
import Derived.Test.Qxb6602978aMapIs
import Derived.WalkKit
import Derived.WalkSpells
import Derived.WalkLawsBesides
import Derived.Deep.QuietTactic
import Derived.BigQuiet
import Derived.Deep.RegionHeld3
import Derived.Deep.AppendLies
import Derived.Deep.RegionLaw
namespace Go.Proofs.Qxb6602978a.Lay
open Go.RowKit Go.Maps Mp

theorem hid {p : Prop} (h : p) : Hid p := h
def zv : Value := .agg #[.string ⟨#[]⟩, .string ⟨#[]⟩, .int .i64 0, .int .i64 0, .int .i64 0]
theorem zero52 (w : World) : (zeroValue 52).run Try.prog w = .ok zv w := by kernel_rfl
theorem law9 : Keyed Try.prog 9 := string_keyed Try.underlying9
def sp (nm tp : ByteArray) (ln dc st : Int) : Value := .agg #[.string nm, .string tp, .int .i64 ln, .int .i64 dc, .int .i64 st]

/-- In world x the map M answers so at nm. -/
def Looks (M : Nat) (nm : ByteArray) (c0 c1 c2 c3 c4 : Value) (ok : Bool) (x : World) : Prop :=
  (Instr.lookup 44 (.map (some M)) (.string nm) true).run Try.prog x = .ok (.tuple #[.agg #[c0, c1, c2, c3, c4], .bool ok]) x

theorem al1 (w : World) (a : Obj) (M : Nat) (h : M < w.heap.size) : (w.alloc a).heap[M]? = w.heap[M]? := Below.heap_alloc w a M h
theorem al2 (w : World) (a b : Obj) (M : Nat) (h : M < w.heap.size) : ((w.alloc a).alloc b).heap[M]? = w.heap[M]? := by
  rw [al1 _ _ _ (by simp; omega), al1 _ _ _ h]

set_option maxRecDepth 100000 in
set_option maxHeartbeats 3200000 in
theorem add_old (L M : Nat) (nm tp : ByteArray) (ln dc : Int) (w : World) (s1 s2 : ByteArray) (n1 n2 n3 : Int)
    (hL0 : w.cell? ⟨L, 0, none⟩ = some (.map (some M))) (hM : M < w.heap.size)
    (hlook : ∀ x : World, x.heap[M]? = w.heap[M]? → Looks M nm (.string s1) (.string s2) (.int .i64 n1) (.int .i64 n2) (.int .i64 n3) true x) :
    Calls Try.prog 27 #[.pointer (some ⟨L, 0, none⟩), .agg #[.string nm, .string tp, .int .i64 ln, .int .i64 dc]] w fun e w' => e = .returned (.bool false) ∧ Below w.heap.size w w' := by
  have lL := World.block_lt_of_cell? w _ hL0
  have HK := hid hlook
  clear hlook
  go_enter Try.func27, Try.ntmps27
  go_wp2_with fail
  have hL0' : (w.alloc (.cells #[.string nm, .string tp, .int .i64 ln, .int .i64 dc] 50)).cell? ⟨L, 0, none⟩ = some (.map (some M)) := by
    rw [World.cell?_of_block (w := w) (Below.heap_alloc w _ L lL)]; exact hL0
  have hN := World.new_ne w _ hL0
  have hlk : (Instr.lookup 44 (.map (some M)) (.string nm) true).run Try.prog (w.alloc (.cells #[.string nm, .string tp, .int .i64 ln, .int .i64 dc] 50)) = .ok (.tuple #[.agg #[.string s1, .string s2, .int .i64 n1, .int .i64 n2, .int .i64 n3], .bool true]) (w.alloc (.cells #[.string nm, .string tp, .int .i64 ln, .int .i64 dc] 50)) :=
    HK.out _ (Below.heap_alloc w _ M hM)
  go_region_held3 (fun w' => w'.cell? ⟨L, 0, none⟩ = some (.map (some M)) ∧ w'.cell? ⟨w.heap.size, 0, none⟩ = some (.string nm) ∧
      (Instr.lookup 44 (.map (some M)) (.string nm) true).run Try.prog w' = .ok (.tuple #[.agg #[.string s1, .string s2, .int .i64 n1, .int .i64 n2, .int .i64 n3], .bool true]) w')
    (first
      | (go_split_ands
         refine ⟨by go_keep, by go_keep, ?_⟩
         first | assumption | exact HK.out _ (al1 w _ M hM) | exact HK.out _ (al2 w _ _ M hM)))
    (fail)
  all_goals
    go_wp2
    go_ret
    exact ⟨rfl, by first | exact (((Below.refl _ _).alloc (Nat.le_refl _) _).alloc (by simp) _).drew | (refine Below.drew ?_; exact (((Below.refl _ _).alloc (Nat.le_refl _) _).alloc (by simp) _))⟩

theorem row3 {W : World} {L : Nat} {a b c : Value} {t : TypeId} (h : W.heap[L]? = some (.cells #[a, b, c] t (0, 0))) :
    W.cell? ⟨L, 0, none⟩ = some a ∧ W.cell? ⟨L, 1, none⟩ = some b ∧ W.cell? ⟨L, 2, none⟩ = some c ∧ W.frozen? ⟨L, 1, none⟩ = false ∧ W.frozen? ⟨L, 2, none⟩ = false := by
  refine ⟨?_, ?_, ?_, frozen_of_row W L 1 _ t h, frozen_of_row W L 2 _ t h⟩
  all_goals rw [cell_of_row W L _ _ t (0, 0) h]; rfl
theorem row4 {W : World} {L : Nat} {a b c d : Value} {t : TypeId} (h : W.heap[L]? = some (.cells #[a, b, c, d] t (0, 0))) :
    W.cell? ⟨L, 0, none⟩ = some a ∧ W.cell? ⟨L, 1, none⟩ = some b ∧ W.cell? ⟨L, 2, none⟩ = some c ∧ W.cell? ⟨L, 3, none⟩ = some d := by
  refine ⟨?_, ?_, ?_, ?_⟩
  all_goals rw [cell_of_row W L _ _ t (0, 0) h]; rfl

theorem lt_of {W : World} {L : Nat} {o : Obj} (h : W.heap[L]? = some o) : L < W.heap.size := (Array.getElem?_eq_some_iff.1 h).1

theorem keepB {w2 w3 : World} {row : Option Nat} {X o : Obj} {L : Nat} (hg : (w2.alloc X).drew.grownBy w3 row) (h : w2.heap[L]? = some o) (hne : row ≠ some L) : w3.heap[L]? = some o :=
  (hg.block L (by have := lt_of h; simp; omega) (Ne.symm hne)).trans ((al1 w2 X L (lt_of h)).trans h)

theorem Try.info9 : (Try.prog.info? 9).map (fun i => (i.zero, i.size, i.bytes)) = some (some (.string ⟨#[]⟩), 1, 16) := by kernel_rfl

set_option maxRecDepth 100000 in
set_option maxHeartbeats 3200000 in
theorem add_new (B L M : Nat) (nm tp : ByteArray) (ln dc : Int) (w : World) (nv : Value) (sz : Int) (f g : Lit → Option Value) (s n : Nat) (xs : List Value)
    (hL : w.heap[L]? = some (.cells #[.map (some M), nv, .int .i64 sz] 46 (0, 0))) (hBL : B ≤ L) (hBM : B ≤ M)
    (hm : MapIs Try.prog 9 w M f s) (hown : w.ownsRow B 9 1 nv n xs) (hnm : nm.size ≤ maxLen) (hs : s ≤ 4096) (hn : n ≤ 4096)
    (hf : f (.string nm.data.toList) = none) (hg : g (.string nm.data.toList) = some (sp nm tp ln dc sz)) (hgo : ∀ x, WideAt.IsKeyLit x → x ≠ .string nm.data.toList → g x = f x) :
    Calls Try.prog 27 #[.pointer (some ⟨L, 0, none⟩), .agg #[.string nm, .string tp, .int .i64 ln, .int .i64 dc]] w fun e w' => e = .returned (.bool true) ∧ Below B w w' ∧
      ∃ nv', w'.heap[L]? = some (.cells #[.map (some M), nv', .int .i64 (wrap64 (sz + ln))] 46 (0, 0)) ∧ MapIs Try.prog 9 w' M g (s + 1) ∧ w'.ownsRow B 9 1 nv' (n + 1) (xs ++ [.string nm]) := by
  have hM := hm.lt
  have lL := lt_of hL
  have hL0 := (row3 hL).1
  have hkey : keyOf Try.prog 9 (.string nm) = some (.string nm.data.toList) := WideMaps.keyOf_string_mk Try.underlying9 hnm
  have HK : Hid (∀ x : World, x.heap[M]? = w.heap[M]? → Looks M nm (.string ⟨#[]⟩) (.string ⟨#[]⟩) (.int .i64 0) (.int .i64 0) (.int .i64 0) false x) := by
    intro x hx
    have := (hm.block hx).look_ok law9 Try.underlying44 (zero52 x) (kl := .string nm.data.toList) trivial hkey
    rw [hf] at this
    exact this
  have HHL := hid hL
  have HHM := hid hm
  have HOW := hid hown
  have HF := hid hf
  have HG := hid hg
  have HGO := hid hgo
  have HKEY := hid hkey
  clear hL hm hown hf hg hgo hkey
  go_enter Try.func27, Try.ntmps27
  go_wp2_with fail
  have hL0' : (w.alloc (.cells #[.string nm, .string tp, .int .i64 ln, .int .i64 dc] 50)).cell? ⟨L, 0, none⟩ = some (.map (some M)) := by
    rw [World.cell?_of_block (w := w) (Below.heap_alloc w _ L lL)]; exact hL0
  have hN := World.new_ne w _ hL0
  have hlk : (Instr.lookup 44 (.map (some M)) (.string nm) true).run Try.prog (w.alloc (.cells #[.string nm, .string tp, .int .i64 ln, .int .i64 dc] 50)) = .ok (.tuple #[.agg #[.string ⟨#[]⟩, .string ⟨#[]⟩, .int .i64 0, .int .i64 0, .int .i64 0], .bool false]) (w.alloc (.cells #[.string nm, .string tp, .int .i64 ln, .int .i64 dc] 50)) :=
    HK.out _ (Below.heap_alloc w _ M hM)
  go_region_held3 (fun w' => w'.cell? ⟨L, 0, none⟩ = some (.map (some M)) ∧ w'.cell? ⟨w.heap.size, 0, none⟩ = some (.string nm) ∧
      (Instr.lookup 44 (.map (some M)) (.string nm) true).run Try.prog w' = .ok (.tuple #[.agg #[.string ⟨#[]⟩, .string ⟨#[]⟩, .int .i64 0, .int .i64 0, .int .i64 0], .bool false]) w')
    (first
      | (go_split_ands
         refine ⟨by go_keep, by go_keep, ?_⟩
         first | assumption | exact HK.out _ (al1 w _ M hM) | exact HK.out _ (al2 w _ _ M hM)))
    (fail)
  all_goals
    clear hL0' hlk HK
    rename_i hHeld
    clear hHeld
    go_wp2_with fail
    have q1 : Hid (((w.alloc (.cells #[.string nm, .string tp, .int .i64 ln, .int .i64 dc] 50)).alloc (.cells #[.string ⟨#[]⟩, .string ⟨#[]⟩, .int .i64 0, .int .i64 0, .int .i64 0] 52)).drew.heap[L]? = some (.cells #[.map (some M), nv, .int .i64 sz] 46 (0, 0))) := (al2 w _ _ L lL).trans HHL.out
    have q2 : Hid (((w.alloc (.cells #[.string nm, .string tp, .int .i64 ln, .int .i64 dc] 50)).alloc (.cells #[.string ⟨#[]⟩, .string ⟨#[]⟩, .int .i64 0, .int .i64 0, .int .i64 0] 52)).drew.heap[w.heap.size]? = some (.cells #[.string nm, .string tp, .int .i64 ln, .int .i64 dc] 50 (0, 0))) := (al1 (w.alloc _) _ w.heap.size (by simp)).trans (heap_alloc_new w _)
    have q3 : Hid (MapIs Try.prog 9 ((w.alloc (.cells #[.string nm, .string tp, .int .i64 ln, .int .i64 dc] 50)).alloc (.cells #[.string ⟨#[]⟩, .string ⟨#[]⟩, .int .i64 0, .int .i64 0, .int .i64 0] 52)).drew M f s) := HHM.out.block (al2 w _ _ M hM)
    have q4 : Hid (((w.alloc (.cells #[.string nm, .string tp, .int .i64 ln, .int .i64 dc] 50)).alloc (.cells #[.string ⟨#[]⟩, .string ⟨#[]⟩, .int .i64 0, .int .i64 0, .int .i64 0] 52)).drew.ownsRow B 9 1 nv n xs) := ((HOW.out.alloc _).alloc _).drew
    have q5 : Hid (Below B w ((w.alloc (.cells #[.string nm, .string tp, .int .i64 ln, .int .i64 dc] 50)).alloc (.cells #[.string ⟨#[]⟩, .string ⟨#[]⟩, .int .i64 0, .int .i64 0, .int .i64 0] 52)).drew) := ((((Below.refl _ _).alloc (by omega) _).alloc (by simp; omega) _).drew : Below B w _)
    generalize ((w.alloc (.cells #[.string nm, .string tp, .int .i64 ln, .int .i64 dc] 50)).alloc (.cells #[.string ⟨#[]⟩, .string ⟨#[]⟩, .int .i64 0, .int .i64 0, .int .i64 0] 52)).drew = W at q1 q2 q3 q4 q5 ⊢
    clear hL0 HHL HHM HOW
    obtain ⟨c0, c1, c2, fz1, fz2⟩ := row3 q1.out
    obtain ⟨n0, n1, n2, n3⟩ := row4 q2.out
    obtain ⟨w2, hupd, hm2, hg2, hs2⟩ := (show MapIs Try.prog 9 W.drew M f s from q3.out).store law9 Try.underlying44 (by unfold maxLen; omega) (kl := .string nm.data.toList) trivial HKEY.out (.agg #[.string nm, .string tp, .int .i64 ln, .int .i64 dc, .int .i64 sz]) HG.out HGO.out
    rw [HF.out] at hm2
    have hML : L ≠ M := by
      intro e
      obtain ⟨es, cl, hh⟩ := q3.out.isMapBlock
      have := q1.out
      rw [e, hh] at this
      cases this
    have hMF : w.heap.size ≠ M := by omega
    have r1 : w2.heap[L]? = some (.cells #[.map (some M), nv, .int .i64 sz] 46 (0, 0)) := (hg2.block L (lt_of q1.out) (by simpa using hML)).trans q1.out
    have r2 : w2.heap[w.heap.size]? = some (.cells #[.string nm, .string tp, .int .i64 ln, .int .i64 dc] 50 (0, 0)) := (hg2.block _ (lt_of q2.out) (by simpa using hMF)).trans q2.out
    obtain ⟨d0, d1, d2, gz1, gz2⟩ := row3 r1
    obtain ⟨m0, m1, m2, m3⟩ := row4 r2
    have R1 := hid r1
    have R2 := hid r2
    have HM2 := hid hm2
    have HG2 := hid hg2
    have HS2 := hid hs2
    clear r1 r2 hm2 hg2 hs2
    go_region_held3 (fun w' => w'.cell? ⟨L, 0, none⟩ = some (.map (some M)) ∧ w'.cell? ⟨L, 2, none⟩ = some (.int .i64 sz) ∧ w'.cell? ⟨w.heap.size, 0, none⟩ = some (.string nm) ∧ w'.cell? ⟨w.heap.size, 1, none⟩ = some (.string tp) ∧ w'.cell? ⟨w.heap.size, 2, none⟩ = some (.int .i64 ln) ∧ w'.cell? ⟨w.heap.size, 3, none⟩ = some (.int .i64 dc))
      (first
        | exact ⟨d0, d2, m0, m1, m2, m3⟩
        | exact ⟨c0, c2, n0, n1, n2, n3⟩)
      (fail)
    clear c0 c1 c2 fz1 fz2 n0 n1 n2 n3 hupd
    rename_i hHeld
    clear hHeld
    obtain ⟨i0, hi, hz0, hz1, hz2⟩ := info_parts Try.info9
    have HO2 : Hid (w2.ownsRow B 9 1 nv n xs) := q4.out.drew.kept HG2.out (by
      rcases q4.out.2 with ⟨h, _⟩ | ⟨g', cap, cur, hv, _, hh, _⟩
      · left; rw [h]; rfl
      · right
        rw [hv]
        intro e
        simp only [Value.ownBlock, Option.some.injEq] at e
        obtain ⟨es, cl, hh'⟩ := q3.out.isMapBlock
        rw [← e, hh] at hh'
        cases hh')
    have hnL : nv.ownBlock ≠ some L := by
      rcases HO2.out.2 with ⟨h, _⟩ | ⟨g', cap, cur, hv, _, hh, _⟩
      · rw [h]; simp [Value.ownBlock]
      · rw [hv]
        intro e
        simp only [Value.ownBlock, Option.some.injEq] at e
        rw [e, R1.out] at hh
        simp at hh
    have hnF : nv.ownBlock ≠ some w.heap.size := by
      rcases HO2.out.2 with ⟨h, _⟩ | ⟨g', cap, cur, hv, _, hh, _⟩
      · rw [h]; simp [Value.ownBlock]
      · rw [hv]
        intro e
        simp only [Value.ownBlock, Option.some.injEq] at e
        rw [e, R2.out] at hh
        simp at hh
    have lL2 := lt_of R1.out
    have lF2 := lt_of R2.out
    have hB2 : B ≤ w2.heap.size := by omega
    go_wp2_with fail
    go_region_law
      ((refine step_append_lies _ (by rfl) _ _ _ (by rfl) B 9 i0 _ 1 16 Try.underlying40 hi hz0 hz1 hz2 rfl (by omega) nv n xs (by rfl) ((HO2.out.alloc _).drew)
          ⟨w2.heap.size, 0, none⟩ 1 1 [.string nm] (by rfl) (by rfl) (World.news_of_block (cs := #[.string nm]) (t := 9) (fr := (0, 0)) (heap_alloc_new w2 _)) (by simp [Value.oneCell'])
          (by omega) (by unfold maxLen; omega) (by omega) (by simp; omega) (w2.heap.size + 1) (by simp) ?_; intro gg cap w3 hown3 hgrow hat hlt; have T1 := hid (keepB hgrow R1.out hnL); have T2 := hid (keepB hgrow R2.out hnF); have z1 := (row3 T1.out).2.1; have z2 := (row3 T1.out).2.2.2.1; have HOW3 := hid hown3; have HGR3 := hid hgrow; clear hown3 hgrow))
    all_goals
      clear z1 z2
      have U1 : Hid ((w3.setCell ⟨L, 1, none⟩ (.slice (some ⟨gg, 0, none⟩) (n + 1) cap)).heap[L]? = some (.cells #[.map (some M), .slice (some ⟨gg, 0, none⟩) (n + 1) cap, .int .i64 sz] 46 (0, 0))) := heap_setCell_same w3 L 1 _ 46 _ T1.out
      have U2 : Hid ((w3.setCell ⟨L, 1, none⟩ (.slice (some ⟨gg, 0, none⟩) (n + 1) cap)).heap[w.heap.size]? = some (.cells #[.string nm, .string tp, .int .i64 ln, .int .i64 dc] 50 (0, 0))) := (Below.heap_setCell _ _ _ _ hN).trans T2.out
      have hMn : nv.ownBlock ≠ some M := by
        rcases HO2.out.2 with ⟨h, _⟩ | ⟨g', cap, cur, hv, _, hh, _⟩
        · rw [h]; simp [Value.ownBlock]
        · rw [hv]
          intro e
          simp only [Value.ownBlock, Option.some.injEq] at e
          obtain ⟨es, cl, hh'⟩ := HM2.out.isMapBlock
          rw [e, hh'] at hh
          cases hh
      have U3 : Hid (MapIs Try.prog 9 (w3.setCell ⟨L, 1, none⟩ (.slice (some ⟨gg, 0, none⟩) (n + 1) cap)) M g (s + 1)) := by
        refine MapIs.block HM2.out ?_
        rw [Below.heap_setCell _ _ _ _ hML.symm]
        obtain ⟨es, cl, hh'⟩ := HM2.out.isMapBlock
        rw [keepB HGR3.out hh' hMn, hh']
      have hggL : L ≠ gg := by
        intro e
        rcases HOW3.out.2 with ⟨h, _⟩ | ⟨g', cap, cur, hv, _, hh, _⟩
        · simp at h
        · simp only [Value.slice.injEq, Option.some.injEq, Addr.mk.injEq, and_true, true_and] at hv
          rw [← hv.1, ← e, T1.out] at hh
          simp at hh
      have U4 : Hid ((w3.setCell ⟨L, 1, none⟩ (.slice (some ⟨gg, 0, none⟩) (n + 1) cap)).ownsRow B 9 1 (.slice (some ⟨gg, 0, none⟩) (n + 1) cap) (n + 1) (xs ++ [.string nm])) := by
        obtain ⟨h1, h2⟩ := HOW3.out
        refine ⟨h1, ?_⟩
        rcases h2 with h2 | ⟨g', cap', cur, hv, hgb, hh, r⟩
        · exact Or.inl h2
        · refine Or.inr ⟨g', cap', cur, hv, hgb, ?_, r⟩
          simp only [Value.slice.injEq, Option.some.injEq, Addr.mk.injEq, and_true, true_and] at hv
          rw [Below.heap_setCell _ _ _ _ (by rw [← hv.1]; exact hggL.symm)]; exact hh
      have U5 : Hid (Below B w (w3.setCell ⟨L, 1, none⟩ (.slice (some ⟨gg, 0, none⟩) (n + 1) cap))) := by
        have b1 : Below B w w2 := (q5.out.drew).grown HG2.out (by have := lt_of q1.out; simp; omega) (by intro k hk; cases hk; exact hBM)
        have b2 : Below B w (w2.alloc (.cells #[.string nm] 9)).drew := (b1.alloc hB2 _).drew
        exact (b2.grown HGR3.out (by simp; omega) (by
          intro k hk
          exact (HO2.out.lt k hk).1)).setCell hBL _
      generalize w3.setCell ⟨L, 1, none⟩ (.slice (some ⟨gg, 0, none⟩) (n + 1) cap) = W4 at U1 U2 U3 U4 U5 ⊢
      obtain ⟨e0, e1, e2, ez1, ez2⟩ := row3 U1.out
      obtain ⟨k0, k1, k2, k3⟩ := row4 U2.out
      clear HO2 HGR3 HOW3 T1 T2 q1 q2 q3 q4 q5 HG2 HM2 HS2 R1 R2 d0 d1 d2 gz1 gz2 m0 m1 m2 m3 hi hz0 hz1 hz2
      go_wp2_with fail
      go_region
      all_goals
        go_wp2
        go_ret
        refine ⟨rfl, ?_, .slice (some ⟨gg, 0, none⟩) (n + 1) cap, ?_, ?_, ?_⟩
        · first | exact (U5.out.setCell hBL _).drew | exact U5.out.drew.setCell hBL _
        · exact heap_setCell_same W4 L 2 _ 46 _ U1.out
        · exact MapIs.block U3.out (Below.heap_setCell W4 _ _ _ hML.symm)
        · obtain ⟨h1, h2⟩ := U4.out
          refine ⟨h1, ?_⟩
          rcases h2 with h2 | ⟨g', cap', cur, hv, hgb, hh, r⟩
          · exact Or.inl h2
          · refine Or.inr ⟨g', cap', cur, hv, hgb, ?_, r⟩
            simp only [Value.slice.injEq, Option.some.injEq, Addr.mk.injEq, and_true, true_and] at hv
            exact (Below.heap_setCell W4 ⟨L, 2, none⟩ _ g' (by rw [← hv.1]; exact hggL.symm)).trans hh
end Go.Proofs.Qxb6602978a.Lay
