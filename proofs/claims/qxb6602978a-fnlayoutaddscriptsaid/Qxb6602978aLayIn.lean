import Derived.Test.Qxb6602978aLayOps
import Derived.Laws.CopyOwn
namespace Go.Proofs.Qxb6602978a.Lay
open Go.RowKit Go.Maps Mp

/-- One field as it comes in. -/
structure FIn where
  nm : ByteArray
  tp : ByteArray
  ln : Int
  dc : Int

def fin0 : FIn := ⟨⟨#[]⟩, ⟨#[]⟩, 0, 0⟩

def CellsAt (w : World) (b off : Nat) (fs : List FIn) : Prop :=
  ∀ i, i < fs.length → w.cell? ⟨b, off + i * 4, none⟩ = some (.string (fs.getD i fin0).nm) ∧ w.cell? ⟨b, off + i * 4 + 1, none⟩ = some (.string (fs.getD i fin0).tp) ∧
    w.cell? ⟨b, off + i * 4 + 2, none⟩ = some (.int .i64 (fs.getD i fin0).ln) ∧ w.cell? ⟨b, off + i * 4 + 3, none⟩ = some (.int .i64 (fs.getD i fin0).dc)

def RetB (e : Ending) : Prop := ∃ r, e = .returned (.bool r)
theorem RetB.mk (r : Bool) : RetB (.returned (.bool r)) := ⟨r, rfl⟩
def RetI (e : Ending) : Prop := ∃ r, e = .returned (.int .i64 r)
theorem RetI.mk (r : Int) : RetI (.returned (.int .i64 r)) := ⟨r, rfl⟩

theorem zz15_nil (a : Option Addr) (c : Nat) (w : World) : Calls Try.prog 15 #[.slice a 0 c] w fun e w' => RetB e ∧ w = w' := by
  go_enter Try.func15, Try.ntmps15
  go_wp2
  refine wp_loop_rounds 1 ?_
  rw [rounds_succ]
  go_wp2
  go_ret
  exact ⟨RetB.mk _, rfl⟩

set_option maxHeartbeats 1000000 in
theorem zz15_any (b off c : Nat) (fs : List FIn) (w : World) (hn : fs.length ≤ maxLen) (hc : CellsAt w b off fs) (hz : ∀ x ∈ fs, x.nm.size ≤ maxLen ∧ x.tp.size ≤ maxLen) :
    Calls Try.prog 15 #[.slice (some ⟨b, off, none⟩) fs.length c] w fun e w' => RetB e ∧ w = w' := by
  unfold maxLen at hn
  have HC := hid hc
  have HZ := hid hz
  clear hc hz
  by_cases hbig : 1048576 < fs.length
  · go_enter Try.func15, Try.ntmps15
    go_wp2
    go_ret
    exact ⟨RetB.mk _, rfl⟩
  obtain ⟨n, hnn⟩ : ∃ n, n = fs.length := ⟨_, rfl⟩
  rw [← hnn] at hn hbig ⊢
  have HN := hid hnn
  clear hnn
  go_enter Try.func15, Try.ntmps15
  go_wp2
  go_loop [3, 4] (fun z i => ∃ (k : Nat) (t : Int), k ≤ n ∧ i = .int .i64 k ∧ z = .int .i64 t ∧ 0 ≤ t ∧ t ≤ 1048576) (fun _ i => n - (intOf i).toNat)
  case atStart => exact ⟨0, n, Nat.zero_le _, rfl, rfl, by omega, by omega⟩
  case round =>
    obtain ⟨k, t, hk, rfl, rfl, ht0, ht1⟩ := hrel
    by_cases hlt : k < n
    · obtain ⟨c0, c1, _, _⟩ := HC.out k (by rw [← HN.out]; exact hlt)
      have hm : fs.getD k fin0 ∈ fs := by
        rw [List.getD_eq_getElem?_getD, List.getElem?_eq_getElem (by rw [← HN.out]; exact hlt)]; exact List.getElem_mem _
      obtain ⟨z0, z1⟩ := HZ.out _ hm
      clear hm
      generalize fs.getD k fin0 = x at *
      obtain ⟨nm, tp, ln, dc⟩ := x
      dsimp only at c0 c1 z0 z1
      unfold maxLen at z0 z1
      go_wp2
      all_goals first
        | (go_ret; exact ⟨RetB.mk _, rfl⟩)
        | skip
      go_round
      case rel => exact ⟨k + 1, _, by omega, by go_num, rfl, by omega, by omega⟩
      case measure => simp [intOf]; omega
    · go_wp2
      go_ret
      exact ⟨RetB.mk _, rfl⟩

theorem fb_nil (a : Option Addr) (c : Nat) (w : World) : Calls Try.prog 16 #[.slice a 0 c] w fun e w' => RetI e ∧ ∃ d, w' = w.drewN d := by
  go_enter Try.func16, Try.ntmps16
  go_wp2
  refine wp_loop_rounds 1 ?_
  rw [rounds_succ]
  go_wp2
  go_ret
  exact ⟨RetI.mk _, 0, rfl⟩

set_option maxHeartbeats 1000000 in
theorem fb_any (b off c : Nat) (fs : List FIn) (w : World) (hn : fs.length ≤ 1048576) (hc : CellsAt w b off fs) (hz : ∀ x ∈ fs, x.nm.size ≤ maxLen ∧ x.tp.size ≤ maxLen) :
    Calls Try.prog 16 #[.slice (some ⟨b, off, none⟩) fs.length c] w fun e w' => RetI e ∧ ∃ d, w' = w.drewN d := by
  have HC := hid hc
  have HZ := hid hz
  clear hc hz
  obtain ⟨n, hnn⟩ : ∃ n, n = fs.length := ⟨_, rfl⟩
  rw [← hnn] at hn ⊢
  have HN := hid hnn
  clear hnn
  go_enter Try.func16, Try.ntmps16
  go_wp2
  go_loopw [3, 4] (fun z i wr => ∃ (k : Nat) (t : Int) (d : Nat), k ≤ n ∧ i = .int .i64 k ∧ z = .int .i64 t ∧ wr = w.drewN d) (fun _ i _ => n - (intOf i).toNat)
  case atStart => exact ⟨0, 0, 0, Nat.zero_le _, rfl, rfl, rfl⟩
  case round =>
    obtain ⟨k, t, d, hk, rfl, rfl, rfl⟩ := hrel
    by_cases hlt : k < n
    · obtain ⟨c0, c1, _, _⟩ := HC.out k (by rw [← HN.out]; exact hlt)
      have hm : fs.getD k fin0 ∈ fs := by
        rw [List.getD_eq_getElem?_getD, List.getElem?_eq_getElem (by rw [← HN.out]; exact hlt)]; exact List.getElem_mem _
      obtain ⟨z0, z1⟩ := HZ.out _ hm
      clear hm
      generalize fs.getD k fin0 = x at *
      obtain ⟨nm, tp, ln, dc⟩ := x
      dsimp only at c0 c1 z0 z1
      unfold maxLen at z0 z1
      have i0 : (0 : Int) ≤ (k : Int) := by omega
      have i1 : (k : Int) < (n : Int) := by omega
      have e0 : (w.drewN d).cell? ⟨b, off + k * 4, none⟩ = some (.string nm) := by rw [World.cell?_drewN]; exact c0
      have e1 : (w.drewN d).cell? ⟨b, off + k * 4 + 1, none⟩ = some (.string tp) := by rw [World.cell?_drewN]; exact c1
      go_wp2
      go_quiet (fail)
      go_wp2
      go_roundw
      case rel => exact ⟨k + 1, _, d + nq, by omega, by go_num, rfl, rfl⟩
      case measure => simp [intOf]; omega
    · go_wp2
      go_ret
      exact ⟨RetI.mk _, d, rfl⟩

/-! ### copy of elements of more than one cell -/
theorem run_copy_wide {P : Program} (w : World) (dT sT ty elem : TypeId) (g dLen dCap : Nat) (a : Addr) (sLen sCap : Nat) (cur : Array Value) (t : TypeId) (cs : List Value) (sz n : Nat)
    (hu : P.underlying dT = some (.slice elem)) (hs : (P.info? elem).map (·.size) = some sz) (hg : w.heap[g]? = some (.cells cur t (0, 0))) (hn : Nat.min sLen dLen = n) (hcl : cs.length = n * sz)
    (hsrc : ∀ j v, cs[j]? = some v → w.cell? (a.add j) = some v) (hfit : cs.length = cur.size) (h1 : ∀ v ∈ cs, v.oneCell' = true) :
    (Builtin.copy_ #[dT, sT] ty #[.slice (some ⟨g, 0, none⟩) dLen dCap, .slice (some a) sLen sCap]).run P w = .ok (goInt n) (w.setRow g cs.toArray) := by
  have hl := run_loadCells_list (P := P) w a cs hsrc
  have hst := run_storeCells_at P g 0 t cs 0 cur w hg (by omega) h1
  cases hq : P.info? elem with
  | none => simp [hq] at hs
  | some i =>
    have hi : i.size = sz := by simpa [hq] using hs
    rw [hcl] at hl
    have e : cur.toList.take (0 + 0) ++ cs ++ cur.toList.drop (0 + 0 + cs.length) = cs := by
      simp [hfit]
    rw [e] at hst
    simp [Builtin.copy_, run_underlying hu, Builtin.lenOf, Builtin.firstCells, sizeOf, typeInfo, hq, hi, hn, hl, hst]

theorem wpList_copy_wide {P : Program} {w : World} {ops : Array Oper} {rest : List Oper} {o : Oper} {a : Act} {Q : Exit → Act → World → Prop} (hgd : o.guard = none) (d s : Operand) (dT sT : TypeId)
    (ho : o.op = .call { callee := .builtin .copy, args := #[d, s], argTypes := #[dT, sT] }) (elem : TypeId) (hu : P.underlying dT = some (.slice elem)) (sz n : Nat) (hsz : (P.info? elem).map (·.size) = some sz)
    (g dLen dCap : Nat) (ad : Addr) (sLen sCap : Nat) (hd : a.eval d = .slice (some ⟨g, 0, none⟩) dLen dCap) (hs : a.eval s = .slice (some ad) sLen sCap)
    (cur : Array Value) (t : TypeId) (hg : w.heap[g]? = some (.cells cur t (0, 0))) (cs : List Value) (hn : Nat.min sLen dLen = n) (hcl : cs.length = n * sz)
    (hsrc : ∀ j v, cs[j]? = some v → w.cell? (ad.add j) = some v) (hfit : cs.length = cur.size) (h1 : ∀ v ∈ cs, v.oneCell' = true) (B : Nat) (w0 : World) (hb : Below B w0 w) (hBg : B ≤ g)
    (h : ∀ w', Hid (w'.heap[g]? = some (.cells cs.toArray t (0, 0))) → Below B w0 w' → wpList P ops Q rest (a.put o.dst (goInt n)) w') : wpList P ops Q (o :: rest) a w := by
  refine wpList_plain hgd fun K hK => ?_
  have hrun := run_copy_wide (P := P) w dT sT o.type elem g dLen dCap ad sLen sCap cur t cs sz n hu hsz hg hn hcl hsrc hfit h1
  unfold Oper.wp
  simp [execOp, ho, resolve, invoke, builtin, hd, hs, hrun, Result.andThen]
  exact hK _ _ (h _ (setRow_heap w g cur _ t _ hg) (below_setRow hb hBg _))

def cellsF (fs : List FIn) : List Value := fs.flatMap fun f => [.string f.nm, .string f.tp, .int .i64 f.ln, .int .i64 f.dc]

theorem cellsF_length (fs : List FIn) : (cellsF fs).length = fs.length * 4 := by
  induction fs with
  | nil => rfl
  | cons f r ih => simp only [cellsF, List.flatMap_cons, List.length_append, List.length_cons, List.length_nil] at ih ⊢; omega

theorem cellsF_at (fs : List FIn) : ∀ i, i < fs.length → (cellsF fs)[i * 4]? = some (.string (fs.getD i fin0).nm) ∧ (cellsF fs)[i * 4 + 1]? = some (.string (fs.getD i fin0).tp) ∧
    (cellsF fs)[i * 4 + 2]? = some (.int .i64 (fs.getD i fin0).ln) ∧ (cellsF fs)[i * 4 + 3]? = some (.int .i64 (fs.getD i fin0).dc) := by
  induction fs with
  | nil => intro i hi; simp at hi
  | cons f r ih =>
    intro i hi
    cases i with
    | zero => exact ⟨rfl, rfl, rfl, rfl⟩
    | succ i =>
      have e : ∀ j, (cellsF (f :: r))[(i + 1) * 4 + j]? = (cellsF r)[i * 4 + j]? := by
        intro j
        have e2 : (i + 1) * 4 + j = (i * 4 + j) + 1 + 1 + 1 + 1 := by omega
        rw [e2]
        rfl
      have e0 := e 0
      rw [Nat.add_zero, Nat.add_zero] at e0
      rw [e0, e 1, e 2, e 3]
      exact ih i (by simpa using hi)

theorem cellsF_one (fs : List FIn) : ∀ v ∈ cellsF fs, v.oneCell' = true := by
  intro v hv
  simp only [cellsF, List.mem_flatMap, List.mem_cons, List.not_mem_nil, or_false] at hv
  obtain ⟨f, _, rfl | rfl | rfl | rfl⟩ := hv <;> rfl

theorem cellsF_src {w : World} {b off : Nat} {fs : List FIn} (hc : CellsAt w b off fs) : ∀ j v, (cellsF fs)[j]? = some v → w.cell? ((⟨b, off, none⟩ : Addr).add j) = some v := by
  intro j v hj
  have hjl : j < fs.length * 4 := by
    have := (List.getElem?_eq_some_iff.1 hj).1
    rw [cellsF_length] at this
    exact this
  obtain ⟨a0, a1, a2, a3⟩ := cellsF_at fs (j / 4) (by omega)
  obtain ⟨b0, b1, b2, b3⟩ := hc (j / 4) (by omega)
  have hadd : (⟨b, off, none⟩ : Addr).add j = ⟨b, off + j, none⟩ := by unfold Addr.add; split <;> simp_all
  rw [hadd]
  rcases (show j = j / 4 * 4 ∨ j = j / 4 * 4 + 1 ∨ j = j / 4 * 4 + 2 ∨ j = j / 4 * 4 + 3 by omega) with e | e | e | e
  · rw [e] at hj ⊢; rw [a0] at hj; rw [b0]; exact hj
  · rw [e] at hj ⊢; rw [a1] at hj; rw [← Nat.add_assoc, b1]; exact hj
  · rw [e] at hj ⊢; rw [a2] at hj; rw [← Nat.add_assoc, b2]; exact hj
  · rw [e] at hj ⊢; rw [a3] at hj; rw [← Nat.add_assoc, b3]; exact hj

theorem cellsF_row {w : World} {g : Nat} {fs : List FIn} (hg : w.heap[g]? = some (.cells (cellsF fs).toArray 35 (0, 0))) : CellsAt w g 0 fs := by
  intro i hi
  obtain ⟨a0, a1, a2, a3⟩ := cellsF_at fs i hi
  rw [Nat.zero_add]
  refine ⟨?_, ?_, ?_, ?_⟩
  all_goals
    rw [cell_of_row w g _ _ 35 (0, 0) hg]
    simpa using (by assumption)

theorem Try.info35 : (Try.prog.info? 35).map (fun i => (i.zero, i.size, i.bytes)) = some (some (.agg #[.string ⟨#[]⟩, .string ⟨#[]⟩, .int .i64 0, .int .i64 0]), 4, 48) := by kernel_rfl

theorem clone_nil (w : World) : Calls Try.prog 17 #[.slice none 0 0] w fun e w' => e = .returned (.slice none 0 0) ∧ w = w' := by
  have hnl := fun w' => Lib.run_eql_slice_nil (P := Try.prog) w' 29 35 none 0 0 0 0 Try.underlying29
  go_enter Try.func17, Try.ntmps17
  go_wp2
  go_ret
  exact ⟨rfl, rfl⟩

theorem made_row {w w1 : World} {e : TypeId} {n sz : Nat} {xs : List Value} (h : w1.ownsRow w.heap.size e sz (.slice (some ⟨w.heap.size, 0, none⟩) n n) n xs) (hg : w.grownBy w1 none) :
    ∃ cur : Array Value, cur.size = n * sz ∧ Hid (w1.heap[w.heap.size]? = some (.cells cur e (0, 0))) ∧ Below w.heap.size w w1 := by
  obtain ⟨_, h2⟩ := h
  rcases h2 with ⟨h, _⟩ | ⟨g, cap, cur, hv, _, hh, _, _, hs, _⟩
  · simp at h
  · simp only [Value.slice.injEq, Option.some.injEq, Addr.mk.injEq, and_true, true_and] at hv
    obtain ⟨rfl, rfl⟩ := hv
    exact ⟨cur, hs, hh, (Below.refl _ _).grown hg (Nat.le_refl _) (by intro k hk; cases hk)⟩

theorem src_below {w w1 : World} {x : Addr} {cs : List Value} (hc : ∀ j v, cs[j]? = some v → w.cell? (x.add j) = some v) (hb1 : Below w.heap.size w w1) : ∀ j v, cs[j]? = some v → w1.cell? (x.add j) = some v := by
  intro j v hj
  have hcj := hc j v hj
  rw [hb1.cell (World.block_lt_of_cell? w _ hcj), hcj]

set_option maxHeartbeats 400000 in
theorem clone_some (x : Addr) (n c : Nat) (fs : List FIn) (w : World) (hn : n ≤ 1048576) (hz : fs.length = n) (hc : ∀ j v, (cellsF fs)[j]? = some v → w.cell? (x.add j) = some v) :
    Calls Try.prog 17 #[.slice (some x) n c] w fun e w' => e = .returned (.slice (some ⟨w.heap.size, 0, none⟩) n n) ∧
      w'.heap[w.heap.size]? = some (.cells (cellsF fs).toArray 35 (0, 0)) ∧ Below w.heap.size w w' := by
  have hnl := fun w' => Lib.run_eql_slice_nil (P := Try.prog) w' 29 35 (some x) n c 0 0 Try.underlying29
  obtain ⟨i0, hi, hz0, hz1, hz2⟩ := info_parts Try.info35
  have hsz : (Try.prog.info? 35).map (·.size) = some 4 := by rw [hi]; simp [hz1]
  obtain ⟨cs, hcs⟩ : ∃ cs, cs = cellsF fs := ⟨_, rfl⟩
  have hcl2 : cs.length = n * 4 := by rw [hcs, cellsF_length, hz]
  have h1 : ∀ v ∈ cs, v.oneCell' = true := by rw [hcs]; exact cellsF_one _
  rw [← hcs] at hc
  have HCS := hid hcs
  have HL := hid hcl2
  have HC := hid hc
  have HZ := hid hz
  clear hcs hc hcl2 hz
  go_enter Try.func17, Try.ntmps17
  go_wp2_with (first
    | (at_make; refine wpList_make_full _ rfl _ _ 29 rfl w.heap.size 35 i0 _ 4 Try.underlying29 hi hz0 hz1 .i64 .i64 _ _ n rfl rfl rfl rfl (by rw [hz2]; omega) (by unfold maxLen; omega) (Nat.le_refl _) ?_; intro w1 hown1 hgrow1; obtain ⟨cur, hcl, HG, hb1⟩ := made_row hown1 hgrow1; clear hown1 hgrow1)
    | (refine wpList_copy_wide rfl (.tmp 9) (.tmp 10) 29 29 rfl 35 Try.underlying29 4 n hsz w.heap.size n n x n c rfl rfl cur 35 HG.out cs (Nat.min_self n) HL.out (src_below HC.out hb1) (by rw [HL.out]; omega) h1 w.heap.size w hb1 (Nat.le_refl _) ?_; intro w2 HG2 hB2))
  go_ret
  exact ⟨rfl, by rw [← HCS.out]; exact HG2.out, hB2⟩
end Go.Proofs.Qxb6602978a.Lay
