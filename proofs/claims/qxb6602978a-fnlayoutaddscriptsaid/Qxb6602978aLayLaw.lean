import Derived.Test.Qxb6602978aLayPlain
namespace Go.Proofs.Qxb6602978a.Lay
open Go.RowKit Go.Maps Mp

theorem at_of {w : World} {x : Addr} {fs : List FIn} (hc : ∀ j v, (cellsF fs)[j]? = some v → w.cell? (x.add j) = some v) (h0 : 0 < fs.length) : ∃ b off, x = ⟨b, off, none⟩ ∧ CellsAt w b off fs := by
  obtain ⟨b, off, spot⟩ := x
  have h1 := hc (0 * 4) _ (cellsF_at fs 0 h0).1
  have hspot : spot = none := by simpa [Addr.add] using World.cell?_spot h1
  subst hspot
  refine ⟨b, off, rfl, fun i hi => ?_⟩
  obtain ⟨a0, a1, a2, a3⟩ := cellsF_at fs i hi
  have hadd : ∀ j, (⟨b, off, none⟩ : Addr).add j = ⟨b, off + j, none⟩ := by intro j; unfold Addr.add; split <;> simp_all
  refine ⟨?_, ?_, ?_, ?_⟩
  · have := hc _ _ a0; rw [hadd] at this; exact this
  · have := hc _ _ a1; rw [hadd, ← Nat.add_assoc] at this; exact this
  · have := hc _ _ a2; rw [hadd, ← Nat.add_assoc] at this; exact this
  · have := hc _ _ a3; rw [hadd, ← Nat.add_assoc] at this; exact this

def Szd (fs : List FIn) : Prop := ∀ x ∈ fs, x.nm.size ≤ maxLen ∧ x.tp.size ≤ maxLen

theorem zz15 (x : Addr) (n c : Nat) (fs : List FIn) (w : World) (hz : fs.length = n) (hn : n ≤ maxLen) (hs : Szd fs) (hc : ∀ j v, (cellsF fs)[j]? = some v → w.cell? (x.add j) = some v) :
    Calls Try.prog 15 #[.slice (some x) n c] w fun e w' => RetB e ∧ w = w' := by
  by_cases h0 : n = 0
  · subst h0; exact zz15_nil _ c w
  · obtain ⟨b, off, rfl, hca⟩ := at_of hc (by omega)
    subst hz
    exact zz15_any b off c fs w hn hca hs

theorem fb (x : Addr) (n c : Nat) (fs : List FIn) (w : World) (hz : fs.length = n) (hn : n ≤ 4096) (hs : Szd fs) (hc : ∀ j v, (cellsF fs)[j]? = some v → w.cell? (x.add j) = some v) :
    Calls Try.prog 16 #[.slice (some x) n c] w fun e w' => RetI e ∧ ∃ d, w' = w.drewN d := by
  by_cases h0 : n = 0
  · subst h0; exact fb_nil _ c w
  · obtain ⟨b, off, rfl, hca⟩ := at_of hc (by omega)
    subst hz
    exact fb_any b off c fs w (by omega) hca hs

theorem cells_below {B N : Nat} {w1 w' : World} {fs : List FIn} (hg : w1.heap[N]? = some (.cells (cellsF fs).toArray 35 (0, 0))) (hb : Below B w1 w') (hN : N < B) {i : Nat} (hi : i < fs.length) :
    w'.cell? ⟨N, i * 4, none⟩ = some (.string (F fs i).nm) ∧ w'.cell? ⟨N, i * 4 + 1, none⟩ = some (.string (F fs i).tp) ∧
    w'.cell? ⟨N, i * 4 + 2, none⟩ = some (.int .i64 (F fs i).ln) ∧ w'.cell? ⟨N, i * 4 + 3, none⟩ = some (.int .i64 (F fs i).dc) := by
  have := cellsF_row ((hb.block N hN).trans hg) i hi
  rw [Nat.zero_add] at this
  exact this

theorem nm_beq (fs : List FIn) (q k : Nat) : ((F fs q).nm.toList == (F fs k).nm.toList) = (nmL fs q == nmL fs k) := by
  rw [ByteArray.toList_eq, ByteArray.toList_eq]; rfl

theorem fst_hit {fs : List FIn} {q k : Nat} (hq : q < k) (h : fstOf fs q (nmL fs k) = none) (he : (nmL fs q == nmL fs k) = true) : fi fs k = q := by
  have e : nmL fs q = nmL fs k := by simpa using he
  unfold fi
  rw [fstOf_mono k hq e, h]; rfl
theorem fst_miss {fs : List FIn} {q k : Nat} (h : fstOf fs q (nmL fs k) = none) (he : (nmL fs q == nmL fs k) = false) : fstOf fs (q + 1) (nmL fs k) = none := by
  rw [fstOf_succ, h, he]; rfl

theorem rel_step {fs : List FIn} {zs : List Int} {n k : Nat} {v : Int} (hzl : zs.length = n) (hk : k < n) (hfi : ∀ q, q < k → zs.getD q 0 = (fi fs q : Int)) (hv : v = (fi fs k : Int)) :
    (zs.set k v).length = n ∧ ∀ q, q < k + 1 → (zs.set k v).getD q 0 = (fi fs q : Int) := by
  refine ⟨by simpa using hzl, fun q hq => ?_⟩
  by_cases e : q = k
  · subst e; simp [hzl, hk, hv]
  · have := hfi q (by omega)
    rw [← this]
    simp [Ne.symm e]

theorem set_before {fs : List FIn} {zs : List Int} {k : Nat} {v : Int} (hfi : ∀ q, q < k → zs.getD q 0 = (fi fs q : Int)) : ∀ q, q < k → (zs.set k v).getD q 0 = (fi fs q : Int) := by
  intro q hq
  rw [← hfi q hq]
  simp [show ¬ k = q by omega]

theorem row_step {f : Nat → Int} {ys : List Int} {n k : Nat} (hzl : ys.length = n) (hk : k < n) (hfi : ∀ q, q < k → ys.getD q 0 = f q) :
    (ys.set k (f k)).length = n ∧ ∀ q, q < k + 1 → (ys.set k (f k)).getD q 0 = f q := by
  refine ⟨by simpa using hzl, fun q hq => ?_⟩
  by_cases e : q = k
  · subst e; simp [hzl, hk]
  · have := hfi q (by omega)
    rw [← this]
    simp [Ne.symm e]

theorem Try.info3 : (Try.prog.info? 3).map (fun i => (i.zero, i.size, i.bytes)) = some (some (.int .i64 0), 1, 8) := by kernel_rfl

/-- a row of ints, known whole -/
def IRow (w : World) (g : Nat) (zs : List Int) : Prop := w.heap[g]? = some (.cells (zs.map (Value.int .i64)).toArray 3 (0, 0))

theorem made_ints {w w1 : World} {n : Nat} (h : w1.ownsRow w.heap.size 3 1 (.slice (some ⟨w.heap.size, 0, none⟩) n n) n (madeCells (Value.int .i64 0).cells (n * 1)).toList) (hg : w.grownBy w1 none) :
    Hid (IRow w1 w.heap.size (List.replicate n 0)) ∧ Below w.heap.size w w1 := by
  obtain ⟨_, h2⟩ := h
  rcases h2 with ⟨h, _⟩ | ⟨g, cap, cur, hv, _, hh, _, _, hs, ht⟩
  · simp at h
  · simp only [Value.slice.injEq, Option.some.injEq, Addr.mk.injEq, and_true, true_and] at hv
    obtain ⟨rfl, rfl⟩ := hv
    refine ⟨?_, (Below.refl _ _).grown hg (Nat.le_refl _) (by intro k hk; cases hk)⟩
    have e : (madeCells (Value.int .i64 0).cells (n * 1)).toList = List.replicate n (.int .i64 0) := by
      rw [Nat.mul_one]; exact toList_madeCells_one _ _
    rw [e] at ht
    have e2 : cur = (List.replicate n (Value.int .i64 0)).toArray := by
      rw [← ht, List.take_of_length_le (by simp; omega)]
    show _ = _
    rw [hh, e2]; simp

theorem irow_cell {w : World} {g : Nat} {zs : List Int} (h : IRow w g zs) {i : Nat} (hi : i < zs.length) : w.cell? ⟨g, i, none⟩ = some (.int .i64 (zs.getD i 0)) := by
  rw [cell_of_row w g i _ 3 (0, 0) h]
  simp [List.getElem?_eq_getElem hi]
theorem irow_free {w : World} {g : Nat} {zs : List Int} (h : IRow w g zs) (i : Nat) : w.frozen? ⟨g, i, none⟩ = false := frozen_of_row w g i _ 3 h
theorem irow_set {w : World} {g : Nat} {zs : List Int} (h : IRow w g zs) (i : Nat) (v : Int) : IRow (w.setCell ⟨g, i, none⟩ (.int .i64 v)) g (zs.set i v) := by
  have := heap_setCell_same w g i _ 3 (.int .i64 v) h
  show _ = _
  rw [this]
  simp [List.map_set]
theorem irow_below {B g : Nat} {w w' : World} {zs : List Int} (h : IRow w g zs) (hb : Below B w w') (hg : g < B) : IRow w' g zs := (hb.block g hg).trans h
theorem irow_drewN {w : World} {g : Nat} {zs : List Int} (h : IRow w g zs) (d : Nat) : IRow (w.drewN d) g zs := h
theorem irow_lt {w : World} {g : Nat} {zs : List Int} (h : IRow w g zs) : g < w.heap.size := lt_of h

theorem acc_pos {fs : List FIn} {n : Nat} (h : 0 < n) : 0 < (acc fs n).length := by
  have := (acc_at (fs := fs) h (show fi fs 0 = 0 from rfl)).1
  omega

theorem names_form {B n : Nat} {w : World} {nv : Value} {xs : List Value} (h : w.ownsRow B 9 1 nv n xs) : ∃ ao cp, nv = .slice ao n cp ∧ (0 < n → ∃ g, ao = some ⟨g, 0, none⟩ ∧ ∀ j, j < n → w.cell? ⟨g, j, none⟩ = xs[j]?) := by
  obtain ⟨hl, h2⟩ := h
  rcases h2 with ⟨rfl, rfl⟩ | ⟨g, cap, cur, rfl, hb, hh, r⟩
  · exact ⟨none, 0, rfl, fun h => by omega⟩
  · exact ⟨some ⟨g, 0, none⟩, cap, rfl, fun _ => ⟨g, rfl, fun j hj => World.ownsRow.cellAt ⟨hl, .inr ⟨g, cap, cur, rfl, hb, hh, r⟩⟩ j (by omega)⟩⟩

theorem spanF (B q n : Nat) (fs : List FIn) (w : World) (nv : Value) (hl : Lay B w (acc fs n) (sm fs n) nv) (hnm : (F fs q).nm.size ≤ maxLen) (hq : q < n) :
    Calls Try.prog 23 #[.pointer (some ⟨B + 1, 0, none⟩), .string (F fs q).nm] w fun e w' => e = .returned (.tuple #[.string (F fs (fi fs q)).tp, .int .i64 (F fs (fi fs q)).ln, .int .i64 (F fs (fi fs q)).dc, .int .i64 (sm fs (fi fs q)), .bool true]) ∧ Below w.heap.size w w' :=
  zzSpan B (F fs q).nm w (acc fs n) (sm fs n) nv hl hnm (fld fs (fi fs q)) (lk_all hq)

theorem bcell {W w1 : World} (hb : Below W.heap.size W w1) : ∀ b o, b < W.heap.size → w1.cell? ⟨b, o, none⟩ = W.cell? ⟨b, o, none⟩ := fun b o h => hb.cell (p := ⟨b, o, none⟩) h

/-- what the later loops read: the fields, 'first', 'start'; all of it below B -/
def Dat (B : Nat) (w : World) (fs : List FIn) (n N G1 G2 : Nat) : Prop :=
  (N < B ∧ G1 < B ∧ G2 < B) ∧ ∀ i, i < n →
    (w.cell? ⟨N, i * 4, none⟩ = some (.string (F fs i).nm) ∧ w.cell? ⟨N, i * 4 + 1, none⟩ = some (.string (F fs i).tp) ∧ w.cell? ⟨N, i * 4 + 2, none⟩ = some (.int .i64 (F fs i).ln) ∧ w.cell? ⟨N, i * 4 + 3, none⟩ = some (.int .i64 (F fs i).dc)) ∧
    w.cell? ⟨G1, i, none⟩ = some (.int .i64 (fi fs i : Int)) ∧ w.cell? ⟨G2, i, none⟩ = some (.int .i64 (sm fs i))

theorem Dat.below {B n N G1 G2 : Nat} {w w' : World} {fs : List FIn} (h : Dat B w fs n N G1 G2) (hb : Below B w w') : Dat B w' fs n N G1 G2 := by
  obtain ⟨⟨h1, h2, h3⟩, h⟩ := h
  refine ⟨⟨h1, h2, h3⟩, fun i hi => ?_⟩
  obtain ⟨⟨a0, a1, a2, a3⟩, b, c⟩ := h i hi
  refine ⟨⟨?_, ?_, ?_, ?_⟩, ?_, ?_⟩
  all_goals rw [hb.cell (by assumption)]; assumption

set_option maxRecDepth 100000 in
set_option maxHeartbeats 4000000 in
theorem law_some (x : Addr) (n c : Nat) (fs : List FIn) (w : World) (hz : fs.length = n) (hn : n ≤ maxLen) (hs : Szd fs) (hc : ∀ j v, (cellsF fs)[j]? = some v → w.cell? (x.add j) = some v) :
    Calls Try.prog 6 #[.slice (some x) n c] w fun e w' => e = .returned (.bool true) ∧ Below w.heap.size w w' := by
  have HC := hid hc
  have HS := hid hs
  have HZ := hid hz
  clear hc hs hz
  go_enter Try.func6, Try.ntmps6
  go_wp2_with fail
  refine (zz15 x n c fs w HZ.out hn HS.out HC.out).mono ?_
  rintro e w0 ⟨⟨r, rfl⟩, rfl⟩
  cases r
  · go_wp2
    go_ret
    exact ⟨rfl, Below.refl _ _⟩
  by_cases hbig : 4096 < n
  · unfold maxLen at hn
    go_wp2
    go_ret
    exact ⟨rfl, Below.refl _ _⟩
  replace hbig : n ≤ 4096 := by omega
  clear hn
  go_wp2_with fail
  refine (fb x n c fs w HZ.out hbig HS.out HC.out).mono ?_
  rintro e w0 ⟨⟨t, rfl⟩, d, rfl⟩
  by_cases ht : 1048576 < t
  · go_wp2
    go_ret
    exact ⟨rfl, below_drewN (Below.refl _ _) _⟩
  go_wp2_with fail
  refine (clone_some x n c fs (w.drewN d) (by omega) HZ.out (fun j v hj => HC.out j v hj)).mono ?_
  rintro e w1 ⟨rfl, hg1, hb1⟩
  have HG1 : Hid (w1.heap[w.heap.size]? = some (.cells (cellsF fs).toArray 35 (0, 0))) := hg1
  have HB1 : Hid (Below w.heap.size w w1) := (below_drewN (Below.refl _ _) d).trans hb1
  clear hg1 hb1 ht HC
  obtain ⟨i0, hi, hz0, hz1, hz2⟩ := info_parts Try.info3
  go_wp2_with (at_make; refine wpList_make_full _ rfl _ _ 33 rfl w1.heap.size 3 i0 _ 1 Try.underlying33 hi hz0 hz1 .i64 .i64 _ _ n rfl rfl rfl rfl (by rw [hz2]; omega) (by unfold maxLen; omega) (Nat.le_refl _) ?_; intro w2 hown hgr; obtain ⟨HI0, hb2⟩ := made_ints hown hgr; clear hown hgr)
  have HB2 := hid hb2
  have hNG : w.heap.size < w1.heap.size := lt_of HG1.out
  clear hb2 hi hz0 hz1 hz2
  go_loopw [5] (fun i wr => ∃ (k : Nat) (zs : List Int), k ≤ n ∧ i = .int .i64 k ∧ zs.length = n ∧ IRow wr w1.heap.size zs ∧ (∀ q, q < k → zs.getD q 0 = (fi fs q : Int)) ∧ Below w1.heap.size w1 wr) (fun i _ => n - (intOf i).toNat)
  case atStart => exact ⟨0, List.replicate n 0, Nat.zero_le _, rfl, by simp, HI0.out, fun q hq => by omega, HB2.out⟩
  case round =>
    obtain ⟨k, zs, hk, rfl, hzl, hir, hfi, hbw⟩ := hrel
    clear HB2 HI0
    have HIR := hid hir
    have HFI := hid hfi
    have HBW := hid hbw
    have HZL := hid hzl
    clear hir hfi hbw hzl
    by_cases hlt : k < n
    · have c1 := irow_cell HIR.out (i := k) (by rw [HZL.out]; exact hlt)
      have c2 := irow_free HIR.out k
      have i0' : (0 : Int) ≤ (k : Int) := by omega
      have i1' : (k : Int) < (n : Int) := by omega
      go_wp2
      have J1 := hid (irow_set HIR.out k (k : Int))
      have J2 := hid (HBW.out.setCell (p := ⟨w1.heap.size, k, none⟩) (Nat.le_refl _) (.int .i64 (k : Int)))
      generalize wr.setCell ⟨w1.heap.size, k, none⟩ (.int .i64 (k : Int)) = W5 at J1 J2 ⊢
      clear c1 c2
      go_loopw [6] (fun j wv => ∃ (q d : Nat), q ≤ k ∧ j = .int .i64 q ∧ wv = W5.drewN d ∧ fstOf fs q (nmL fs k) = none) (fun j _ => k - (intOf j).toNat)
      case atStart => exact ⟨0, 0, Nat.zero_le _, rfl, rfl, rfl⟩
      case round =>
        obtain ⟨q, d', hq, rfl, rfl, hno⟩ := hrel
        have HNO := hid hno
        clear hno
        by_cases hqk : q < k
        · obtain ⟨c0, _, _, _⟩ := cells_below HG1.out J2.out hNG (i := q) (by rw [HZ.out]; omega)
          obtain ⟨c1, _, _, _⟩ := cells_below HG1.out J2.out hNG (i := k) (by rw [HZ.out]; omega)
          have e0 : (W5.drewN d').cell? ⟨w.heap.size, q * 4, none⟩ = some (.string (F fs q).nm) := by rw [World.cell?_drewN]; exact c0
          have e1 : (W5.drewN d').cell? ⟨w.heap.size, k * 4, none⟩ = some (.string (F fs k).nm) := by rw [World.cell?_drewN]; exact c1
          have j0 : (0 : Int) ≤ (q : Int) := by omega
          have j1 : (q : Int) < (n : Int) := by omega
          by_cases heq : ((F fs q).nm.toList == (F fs k).nm.toList) = true
          · have HE := hid (fst_hit hqk HNO.out ((nm_beq fs q k).symm.trans heq))
            have g0 := irow_cell J1.out (i := k) (by simp [HZL.out]; exact hlt)
            have g1 := irow_free J1.out k
            go_wp2
            go_quiet (fail)
            go_wp2
            have X := rel_step (v := (q : Int)) (zs := zs.set k (k : Int)) (by simpa using HZL.out) hlt (set_before HFI.out) (by rw [HE.out])
            go_roundw
            case rel => exact ⟨k + 1, (zs.set k (k : Int)).set k (q : Int), by omega, by go_num, X.1, irow_set (irow_drewN J1.out _) k _, X.2, (below_drewN J2.out _).setCell (Nat.le_refl _) _⟩
            case measure => simp [intOf]; omega
          · have heq' : ((F fs q).nm.toList == (F fs k).nm.toList) = false := by simpa using heq
            have HE := hid (fst_miss HNO.out ((nm_beq fs q k).symm.trans heq'))
            clear heq
            go_wp2
            go_quiet (fail)
            go_wp2
            go_roundw
            case rel => exact ⟨q + 1, d' + nq, by omega, by go_num, rfl, HE.out⟩
            case measure => simp [intOf]; omega
        · have hqk' : q = k := by omega
          subst hqk'
          have X := rel_step (v := (q : Int)) (zs := zs) HZL.out hlt HFI.out (by rw [(fi_eq_iff fs q).2 HNO.out])
          go_wp2
          go_roundw
          case rel => exact ⟨q + 1, zs.set q (q : Int), by omega, by go_num, X.1, irow_drewN J1.out _, X.2, below_drewN J2.out _⟩
          case measure => simp [intOf]; omega
    · have hkn : k = n := by omega
      subst hkn
      obtain ⟨wa, hwa⟩ : ∃ wa, wa = wr := ⟨_, rfl⟩
      subst hwa
      obtain ⟨i0, hi, hz0, hz1, hz2⟩ := info_parts Try.info3
      go_wp2_with (at_make; refine wpList_make_full _ rfl _ _ 33 rfl wa.heap.size 3 i0 _ 1 Try.underlying33 hi hz0 hz1 .i64 .i64 _ _ k rfl rfl rfl rfl (by rw [hz2]; omega) (by unfold maxLen; omega) (Nat.le_refl _) ?_; intro w3 hown hgr; obtain ⟨HI0, hb3⟩ := made_ints hown hgr; clear hown hgr)
      have HF1 : Hid (wa.heap[w.heap.size]? = some (.cells (cellsF fs).toArray 35 (0, 0))) := (HBW.out.block _ hNG).trans HG1.out
      have HB3 := hid hb3
      have HBw : Hid (Below w.heap.size w wa) := HB1.out.trans (HBW.out.mono (by omega))
      have hGG : w1.heap.size < wa.heap.size := irow_lt HIR.out
      have hNG2 : w.heap.size < wa.heap.size := by omega
      clear hb3 hi hz0 hz1 hz2 HG1 HB1 HBW hNG
      generalize w1.heap.size = G1 at *
      go_loopw [8, 9, 10] (fun s a i wv => ∃ (p : Nat) (ys : List Int), p ≤ k ∧ i = .int .i64 p ∧ s = .int .i64 (sm fs p) ∧ a = .int .i64 ((acc fs p).length : Nat) ∧ ys.length = k ∧ IRow wv wa.heap.size ys ∧ (∀ q, q < p → ys.getD q 0 = sm fs q) ∧ Below wa.heap.size wa wv) (fun _ _ i _ => k - (intOf i).toNat)
      case atStart => exact ⟨0, List.replicate k 0, Nat.zero_le _, rfl, rfl, rfl, by simp, HI0.out, fun q hq => by omega, HB3.out⟩
      case round =>
        obtain ⟨p, ys, hp, rfl, rfl, rfl, hyl, hiy, hsm, hbv⟩ := hrel
        clear HB3 HI0
        have HIY := hid hiy
        have HSM := hid hsm
        have HBV := hid hbv
        have HYL := hid hyl
        clear hiy hsm hbv hyl
        by_cases hlt : p < k
        · have c1 := irow_cell HIY.out (i := p) (by rw [HYL.out]; exact hlt)
          have c2 := irow_free HIY.out p
          have c3 : wr.cell? ⟨G1, p, none⟩ = some (.int .i64 (fi fs p : Int)) := by
            rw [HBV.out.cell (p := ⟨G1, p, none⟩) hGG, irow_cell HIR.out (i := p) (by rw [HZL.out]; exact hlt), HFI.out p hlt]
          obtain ⟨_, _, c4, _⟩ := cells_below HF1.out HBV.out hNG2 (i := p) (by rw [HZ.out]; exact hlt)
          have hne : G1 ≠ wa.heap.size := by omega
          have hne2 : w.heap.size ≠ wa.heap.size := by omega
          have hal := acc_len fs p
          have X := row_step (f := sm fs) HYL.out hlt HSM.out
          have HX := hid X
          clear X
          by_cases hf : fi fs p = p
          · have hf' : ((fi fs p : Int) == (p : Int)) = true := by simp [hf]
            have HE1 := hid (sm_yes hf)
            have HE2 := hid (acc_yes hf)
            clear hf
            go_wp2
            go_roundw
            case rel => exact ⟨p + 1, ys.set p (sm fs p), by omega, by go_num, by rw [HE1.out], by rw [HE2.out]; simp, HX.out.1, irow_set HIY.out p _, HX.out.2, HBV.out.setCell (Nat.le_refl _) _⟩
            case measure => simp [intOf]; omega
          · have hf' : ((fi fs p : Int) == (p : Int)) = false := by simp; omega
            have HE1 := hid (sm_no hf)
            have HE2 := hid (acc_no hf)
            clear hf
            go_wp2
            go_roundw
            case rel => exact ⟨p + 1, ys.set p (sm fs p), by omega, by go_num, by rw [HE1.out], by rw [HE2.out], HX.out.1, irow_set HIY.out p _, HX.out.2, HBV.out.setCell (Nat.le_refl _) _⟩
            case measure => simp [intOf]; omega
        · have hpk : p = k := by omega
          subst hpk
          go_wp2_with fail
          obtain ⟨wb, hwb⟩ : ∃ wb, wb = wr := ⟨_, rfl⟩
          subst hwb
          obtain ⟨n, hnp⟩ : ∃ n, n = p := ⟨_, rfl⟩
          subst hnp
          have DT : Hid (Dat wb.heap.size wb fs n w.heap.size G1 wa.heap.size) := by
            have l2 := irow_lt HIY.out
            refine ⟨⟨by omega, by omega, l2⟩, fun i hi => ⟨?_, ?_, ?_⟩⟩
            · exact cells_below HF1.out HBV.out hNG2 (i := i) (by rw [HZ.out]; exact hi)
            · rw [HBV.out.cell (p := ⟨G1, i, none⟩) hGG, irow_cell HIR.out (i := i) (by rw [HZL.out]; exact hi), HFI.out i hi]
            · rw [irow_cell HIY.out (i := i) (by rw [HYL.out]; exact hi), HSM.out i hi]
          have BW : Hid (Below w.heap.size w wb) := HBw.out.trans (HBV.out.mono (by omega))
          have hNB : w.heap.size ≤ wb.heap.size := BW.out.size
          clear HIY HSM HBV HYL HF1 HIR HFI HZL HBw hGG hNG2
          generalize wa.heap.size = G2 at *
          refine (new_any wb).mono ?_
          rintro e w4 ⟨rfl, hb4, hlay⟩
          have LY := hid hlay
          have DT4 := hid (DT.out.below hb4)
          have BW4 : Hid (Below w.heap.size w w4) := BW.out.trans (hb4.mono hNB)
          clear DT BW hb4 hlay
          generalize wb.heap.size = B at *
          go_wp2
          have HMX : Hid (∀ q, q < n → (F fs q).nm.size ≤ maxLen) := by
            intro q hq
            have hl : q < fs.length := by rw [HZ.out]; exact hq
            have : F fs q ∈ fs := by
              unfold F
              rw [List.getD_eq_getElem?_getD, List.getElem?_eq_getElem hl]; exact List.getElem_mem _
            exact (HS.out _ this).1
          go_loopw [12] (fun i wv => ∃ (q : Nat) (nv : Value), q ≤ n ∧ i = .int .i64 q ∧ Lay B wv (acc fs q) (sm fs q) nv ∧ Dat B wv fs n w.heap.size G1 G2 ∧ Below w.heap.size w wv) (fun i _ => n - (intOf i).toNat)
          case atStart => exact ⟨0, .slice none 0 0, Nat.zero_le _, rfl, LY.out, DT4.out, BW4.out⟩
          case round =>
            obtain ⟨q, nv, hq, rfl, hly, hdt, hbw⟩ := hrel
            clear LY DT4 BW4
            have LYR := hid hly
            have DTR := hid hdt
            have BWR := hid hbw
            clear hly hdt hbw
            by_cases hlt : q < n
            · obtain ⟨⟨c0, c1, c2, c3⟩, c4, _⟩ := DTR.out.2 q hlt
              have j0 : (0 : Int) ≤ (q : Int) := by omega
              have j1 : (q : Int) < (n : Int) := by omega
              have hmx := HMX.out q hlt
              have hal : (acc fs q).length ≤ 4096 := Nat.le_trans (acc_len fs q) (by omega)
              by_cases hf : fi fs q = q
              · have hf' : ((fi fs q : Int) == (q : Int)) = true := by simp [hf]
                have HNN := hid (lk_isNone hf)
                have HE1 := hid (sm_yes hf)
                have HE2 := hid (acc_yes hf)
                clear hf
                go_wp2_with fail
                go_region_held3 (fun w' => w'.cell? ⟨w.heap.size, q * 4, none⟩ = some (.string (F fs q).nm) ∧ w'.cell? ⟨w.heap.size, q * 4 + 1, none⟩ = some (.string (F fs q).tp) ∧ w'.cell? ⟨w.heap.size, q * 4 + 2, none⟩ = some (.int .i64 (F fs q).ln) ∧ w'.cell? ⟨w.heap.size, q * 4 + 3, none⟩ = some (.int .i64 (F fs q).dc))
                  (first
                    | exact ⟨z0, z1, z2, z3⟩
                    | exact ⟨c0, c1, c2, c3⟩)
                  ((go_at_call 19; refine (zzAdd_new B (F fs q).nm (F fs q).tp (F fs q).ln (F fs q).dc _ (acc fs q) (sm fs q) nv (by exact LYR.out) hmx hal HNN.out).mono ?_; rintro e w5 ⟨rfl, hb5, nv', hl5⟩; obtain ⟨⟨z0, z1, z2, z3⟩, z4, _⟩ := ((show Dat B wr.drew fs n w.heap.size G1 G2 from DTR.out).below hb5).2 q hlt))
                go_wp2
                go_roundw
                case rel => exact ⟨q + 1, nv', by omega, by go_num, by rw [HE1.out, HE2.out]; exact hl5, (show Dat B wr.drew fs n w.heap.size G1 G2 from DTR.out).below hb5, BWR.out.drew.trans (hb5.mono (by have := DTR.out.1.1; omega))⟩
                case measure => simp [intOf]; omega
              · have hf' : ((fi fs q : Int) == (q : Int)) = false := by simp; omega
                have HNN := hid (lk_isSome hf)
                have HE1 := hid (sm_no hf)
                have HE2 := hid (acc_no hf)
                clear hf
                have hBw : B ≤ wr.heap.size := by have := lt_of LYR.out.1; omega
                go_wp2_with fail
                go_region_held3 (fun w' => w'.cell? ⟨w.heap.size, q * 4, none⟩ = some (.string (F fs q).nm) ∧ w'.cell? ⟨w.heap.size, q * 4 + 1, none⟩ = some (.string (F fs q).tp) ∧ w'.cell? ⟨w.heap.size, q * 4 + 2, none⟩ = some (.int .i64 (F fs q).ln) ∧ w'.cell? ⟨w.heap.size, q * 4 + 3, none⟩ = some (.int .i64 (F fs q).dc))
                  (first
                    | exact ⟨z0, z1, z2, z3⟩
                    | exact ⟨c0, c1, c2, c3⟩)
                  ((go_at_call 19; refine (zzAdd_old B (F fs q).nm (F fs q).tp (F fs q).ln (F fs q).dc _ (acc fs q) (sm fs q) nv (by exact LYR.out) hmx HNN.out).mono ?_; rintro e w5 ⟨rfl, hb5⟩; obtain ⟨⟨z0, z1, z2, z3⟩, z4, _⟩ := ((show Dat B wr.drew fs n w.heap.size G1 G2 from DTR.out).below (hb5.mono hBw)).2 q hlt))
                go_wp2
                go_roundw
                case rel => exact ⟨q + 1, nv, by omega, by go_num, by rw [HE1.out, HE2.out]; exact lay_below (show Lay B wr.drew (acc fs q) (sm fs q) nv from LYR.out) hb5 (Nat.le_refl _), (show Dat B wr.drew fs n w.heap.size G1 G2 from DTR.out).below (hb5.mono hBw), BWR.out.drew.trans (hb5.mono BWR.out.size)⟩
                case measure => simp [intOf]; omega
            · have hqn : q = n := by omega
              subst hqn
              obtain ⟨n, hnp⟩ : ∃ n, n = q := ⟨_, rfl⟩
              subst hnp
              obtain ⟨wc, hwc⟩ : ∃ wc, wc = wr := ⟨_, rfl⟩
              subst hwc
              have hsz := BWR.out.size
              have hBw : B ≤ wc.heap.size := by have := lt_of LYR.out.1; omega
              have hal : (acc fs n).length ≤ 4096 := Nat.le_trans (acc_len fs n) (by omega)
              obtain ⟨ao, cp, hnv, hcells⟩ := names_form LYR.out.2.2
              subst hnv
              have HCL := hid hcells
              clear hcells
              go_wp2_with (first
                | (go_at_call 20; refine (zzSize B _ (acc fs n) (sm fs n) (.slice ao (acc fs n).length cp) LYR.out).mono ?_; rintro e w5 ⟨rfl, hw5⟩; subst hw5)
                | (go_at_call 21; refine (zzCount B _ (acc fs n) (sm fs n) (.slice ao (acc fs n).length cp) LYR.out).mono ?_; rintro e w5 ⟨rfl, hw5⟩; subst hw5)
                | (go_at_call 22; refine (zzNames B _ (acc fs n) (sm fs n) (.slice ao (acc fs n).length cp) LYR.out).mono ?_; rintro e w5 ⟨rfl, hw5⟩; subst hw5))
              rcases Nat.eq_zero_or_pos n with hn0 | hn0
              · subst hn0
                refine wp_loop_rounds 1 ?_
                rw [rounds_succ]
                go_wp2
                go_ret
                exact ⟨rfl, BWR.out⟩
              obtain ⟨g, hao, hgc⟩ := HCL.out (acc_pos hn0)
              subst hao
              have HGC := hid hgc
              clear hgc HCL
              have hgl : g < wc.heap.size := World.block_lt_of_cell? wc _ ((HGC.out 0 (acc_pos hn0)).trans (acc_at hn0 (show fi fs 0 = 0 from rfl)).2)
              go_loopw [15, 16] (fun m i wv => ∃ (q : Nat), q ≤ n ∧ i = .int .i64 q ∧ m = .int .i64 ((acc fs q).length : Nat) ∧ Below wc.heap.size wc wv) (fun _ i _ => n - (intOf i).toNat)
              case atStart => exact ⟨0, Nat.zero_le _, rfl, rfl, Below.refl _ _⟩
              case round =>
                obtain ⟨q, hq, rfl, rfl, hbw⟩ := hrel
                have HBW := hid hbw
                clear hbw
                by_cases hlt : q < n
                · have DTQ := hid (DTR.out.below (HBW.out.mono hBw))
                  have hLQ : Hid (Lay B wr (acc fs n) (sm fs n) (.slice (some ⟨g, 0, none⟩) (acc fs n).length cp)) := lay_below LYR.out HBW.out (Nat.le_refl _)
                  have hfl := fi_le fs q
                  have hacl := acc_len fs q
                  by_cases hf : fi fs q = q
                  · have hf' : ((fi fs q : Int) == (q : Int)) = true := by simp [hf]
                    have HE2 := hid (acc_yes hf)
                    obtain ⟨hm1, hm2⟩ := acc_at hlt hf
                    have m0 : (0 : Int) ≤ ((acc fs q).length : Int) := by omega
                    have m1 : ((acc fs q).length : Int) < ((acc fs n).length : Int) := by omega
                    have m2 : wr.cell? ⟨g, (acc fs q).length, none⟩ = some (.string (F fs q).nm) := by
                      rw [HBW.out.cell (p := ⟨g, _, none⟩) hgl, HGC.out _ hm1, hm2]
                    obtain ⟨⟨c0, _, _, _⟩, c4, _⟩ := DTQ.out.2 q hlt
                    have j0 : (0 : Int) ≤ (q : Int) := by omega
                    have j1 : (q : Int) < (n : Int) := by omega
                    clear hf hm2
                    go_wp2
                    go_quiet (fail)
                    have DQ : Hid (Dat B (wr.drewN nq) fs n w.heap.size G1 G2) := DTQ
                    have LQ : Hid (Lay B (wr.drewN nq) (acc fs n) (sm fs n) (.slice (some ⟨g, 0, none⟩) (acc fs n).length cp)) := hLQ
                    have BQ : Hid (Below wc.heap.size wc (wr.drewN nq)) := below_drewN HBW.out nq
                    generalize wr.drewN nq = wq at DQ LQ BQ ⊢
                    clear c0 c4 m2 DTQ hLQ HBW
                    obtain ⟨⟨f0, f1, f2, f3⟩, _, f4⟩ := DQ.out.2 (fi fs q) (by omega)
                    obtain ⟨⟨c0, _, _, _⟩, c4, _⟩ := DQ.out.2 q hlt
                    have j0 : (0 : Int) ≤ (q : Int) := by omega
                    have j1 : (q : Int) < (n : Int) := by omega
                    have k0 : (0 : Int) ≤ (fi fs q : Int) := by omega
                    have k1 : (fi fs q : Int) < (n : Int) := by omega
                    have hmx := HMX.out q hlt
                    have lt1 : w.heap.size < wq.heap.size := World.block_lt_of_cell? wq _ c0
                    have lt2 : G1 < wq.heap.size := World.block_lt_of_cell? wq _ c4
                    have lt3 : G2 < wq.heap.size := World.block_lt_of_cell? wq _ f4
                    go_wp2_with fail
                    have LQ2 := hid (lay_below LQ.out ((Below.refl _ _).alloc (Nat.le_refl _) (.cells #[.string (F fs (fi fs q)).nm, .string (F fs (fi fs q)).tp, .int .i64 (F fs (fi fs q)).ln, .int .i64 (F fs (fi fs q)).dc] 35)) (Nat.le_refl _))
                    refine (spanF B q n fs _ _ LQ2.out hmx hlt).mono ?_
                    rintro e w6 ⟨rfl, hb6⟩
                    have hba : Below wq.heap.size wq w6 := ((Below.refl _ _).alloc (Nat.le_refl _) _).trans (hb6.mono (by simp))
                    have hrow : w6.heap[wq.heap.size]? = some (.cells #[.string (F fs (fi fs q)).nm, .string (F fs (fi fs q)).tp, .int .i64 (F fs (fi fs q)).ln, .int .i64 (F fs (fi fs q)).dc] 35 (0, 0)) := (hb6.block _ (by simp)).trans (heap_alloc_new wq _)
                    obtain ⟨r0, r1, r2, r3⟩ := row4 hrow
                    have r4 : w6.cell? ⟨G1, q, none⟩ = some (.int .i64 (fi fs q : Int)) := (hba.cell lt2).trans c4
                    have r5 : w6.cell? ⟨G2, fi fs q, none⟩ = some (.int .i64 (sm fs (fi fs q))) := (hba.cell lt3).trans f4
                    have BQ6 : Hid (Below wc.heap.size wc w6) := BQ.out.trans (hba.mono BQ.out.size)
                    clear hba hrow hb6 LQ2 LQ DQ BQ c0 c4 f0 f1 f2 f3 f4 hmx
                    go_wp2
                    go_roundw
                    case rel => exact ⟨q + 1, by omega, by go_num, by first | (rw [HE2.out]; simp) | rw [HE2.out], BQ6.out⟩
                    case measure => simp [intOf]; omega
                  · have hf' : ((fi fs q : Int) == (q : Int)) = false := by simp; omega
                    have HE2 := hid (acc_no hf)
                    have DQ : Hid (Dat B wr fs n w.heap.size G1 G2) := DTQ
                    have LQ : Hid (Lay B wr (acc fs n) (sm fs n) (.slice (some ⟨g, 0, none⟩) (acc fs n).length cp)) := hLQ
                    have BQ : Hid (Below wc.heap.size wc wr) := HBW
                    clear hf DTQ hLQ HBW
                    obtain ⟨wq, hwq⟩ : ∃ wq, wq = wr := ⟨_, rfl⟩
                    subst hwq
                    obtain ⟨⟨f0, f1, f2, f3⟩, _, f4⟩ := DQ.out.2 (fi fs q) (by omega)
                    obtain ⟨⟨c0, _, _, _⟩, c4, _⟩ := DQ.out.2 q hlt
                    have j0 : (0 : Int) ≤ (q : Int) := by omega
                    have j1 : (q : Int) < (n : Int) := by omega
                    have k0 : (0 : Int) ≤ (fi fs q : Int) := by omega
                    have k1 : (fi fs q : Int) < (n : Int) := by omega
                    have hmx := HMX.out q hlt
                    have lt1 : w.heap.size < wq.heap.size := World.block_lt_of_cell? wq _ c0
                    have lt2 : G1 < wq.heap.size := World.block_lt_of_cell? wq _ c4
                    have lt3 : G2 < wq.heap.size := World.block_lt_of_cell? wq _ f4
                    go_wp2_with fail
                    have LQ2 := hid (lay_below LQ.out ((Below.refl _ _).alloc (Nat.le_refl _) (.cells #[.string (F fs (fi fs q)).nm, .string (F fs (fi fs q)).tp, .int .i64 (F fs (fi fs q)).ln, .int .i64 (F fs (fi fs q)).dc] 35)) (Nat.le_refl _))
                    refine (spanF B q n fs _ _ LQ2.out hmx hlt).mono ?_
                    rintro e w6 ⟨rfl, hb6⟩
                    have hba : Below wq.heap.size wq w6 := ((Below.refl _ _).alloc (Nat.le_refl _) _).trans (hb6.mono (by simp))
                    have hrow : w6.heap[wq.heap.size]? = some (.cells #[.string (F fs (fi fs q)).nm, .string (F fs (fi fs q)).tp, .int .i64 (F fs (fi fs q)).ln, .int .i64 (F fs (fi fs q)).dc] 35 (0, 0)) := (hb6.block _ (by simp)).trans (heap_alloc_new wq _)
                    obtain ⟨r0, r1, r2, r3⟩ := row4 hrow
                    have r4 : w6.cell? ⟨G1, q, none⟩ = some (.int .i64 (fi fs q : Int)) := (hba.cell lt2).trans c4
                    have r5 : w6.cell? ⟨G2, fi fs q, none⟩ = some (.int .i64 (sm fs (fi fs q))) := (hba.cell lt3).trans f4
                    have BQ6 : Hid (Below wc.heap.size wc w6) := BQ.out.trans (hba.mono BQ.out.size)
                    clear hba hrow hb6 LQ2 LQ DQ BQ c0 c4 f0 f1 f2 f3 f4 hmx
                    go_wp2
                    go_roundw
                    case rel => exact ⟨q + 1, by omega, by go_num, by first | (rw [HE2.out]; simp) | rw [HE2.out], BQ6.out⟩
                    case measure => simp [intOf]; omega
                · have hqn : q = n := by omega
                  subst hqn
                  go_wp2
                  go_ret
                  exact ⟨rfl, BWR.out.trans (HBW.out.mono BWR.out.size)⟩
end Go.Proofs.Qxb6602978a.Lay
