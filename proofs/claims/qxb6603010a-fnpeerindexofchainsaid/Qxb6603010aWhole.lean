import Derived.Test.Qxb6603010aOps
namespace Go.Proofs.Qxb6603010a.Pr
open Go.RowKit Go.Maps Mp

theorem num_inj (l : List Int) : ∀ m : List Int, Byt l → Byt m → (strOfNums l).data.toList = (strOfNums m).data.toList → l = m := by
  induction l with
  | nil =>
    intro m _ _ h
    rw [strOfNums_data, strOfNums_data] at h
    cases m with
    | nil => rfl
    | cons y m => simp at h
  | cons x l ih =>
    intro m hl hm h
    rw [strOfNums_data, strOfNums_data] at h
    cases m with
    | nil => simp at h
    | cons y m =>
      simp only [List.map_cons, List.cons.injEq] at h
      have hx := hl x (by simp)
      have hy := hm y (by simp)
      have e : x = y := by
        have := congrArg UInt8.toNat h.1
        rw [UInt8.toNat_ofNat', UInt8.toNat_ofNat'] at this
        omega
      rw [e, ih m (fun z hz => hl z (by simp [hz])) (fun z hz => hm z (by simp [hz])) (by rw [strOfNums_data, strOfNums_data]; exact h.2)]
theorem beq_key {l m : List Int} (hl : Byt l) (hm : Byt m) : (l == m) = ((strOfNums l).data.toList == (strOfNums m).data.toList) := by
  rw [Bool.eq_iff_iff]
  simp only [beq_iff_eq]
  exact ⟨fun e => by rw [e], num_inj l m hl hm⟩

/-! ### earliest places, counts -/
def fst (K : Nat → List UInt8) (k : Nat) (l : List UInt8) : Option Nat := (List.range k).find? fun j => K j == l
theorem fst_succ (K : Nat → List UInt8) (k : Nat) (l : List UInt8) : fst K (k + 1) l = (fst K k l).or (if K k == l then some k else none) := by
  unfold fst
  rw [List.range_succ, List.find?_append]
  congr 1
  by_cases h : (K k == l) = true
  · rw [List.find?_cons_of_pos (by simpa using h), if_pos h]
  · rw [List.find?_cons_of_neg (by simpa using h), if_neg h]; rfl
theorem fst_lt {K : Nat → List UInt8} {k : Nat} {l : List UInt8} {j : Nat} (h : fst K k l = some j) : j < k ∧ K j = l := by
  unfold fst at h
  have h1 := List.mem_of_find?_eq_some h
  have h2 := List.find?_some h
  exact ⟨by simpa using h1, by simpa using h2⟩
theorem fst_mono {K : Nat → List UInt8} {l : List UInt8} {i : Nat} : ∀ k, i < k → K i = l → fst K k l = some ((fst K i l).getD i) := by
  intro k
  induction k with
  | zero => intro h; omega
  | succ k ih =>
    intro h e
    rw [fst_succ]
    by_cases hk : i = k
    · subst hk
      rw [if_pos (by simpa using e)]
      cases fst K i l <;> rfl
    · rw [ih (by omega) e]; rfl
def erl (K : Nat → List UInt8) (i : Nat) : Nat := (fst K i (K i)).getD i
theorem nx_zero (K : Nat → List UInt8) (n : Nat) (l : List UInt8) : nx K n 0 l = fst K n l := by
  unfold nx fst; rw [Nat.sub_zero, List.range_eq_range']
theorem nx_erl {K : Nat → List UInt8} {n i : Nat} (h : i < n) : nx K n 0 (K i) = some (erl K i) := by
  rw [nx_zero, fst_mono n h rfl]; rfl
theorem erl_hit {K : Nat → List UInt8} {j i : Nat} (hj : j < i) (h : fst K j (K i) = none) (he : (K j == K i) = true) : erl K i = j := by
  have e : K j = K i := by simpa using he
  unfold erl
  rw [fst_mono i hj e, h]; rfl
theorem fst_miss {K : Nat → List UInt8} {j i : Nat} (h : fst K j (K i) = none) (he : (K j == K i) = false) : fst K (j + 1) (K i) = none := by
  rw [fst_succ, h, he]; rfl
theorem erl_self {K : Nat → List UInt8} {i : Nat} (h : fst K i (K i) = none) : erl K i = i := by unfold erl; rw [h]; rfl

def dst (K : Nat → List UInt8) (i : Nat) : Nat := lasts ((List.range i).map K)
theorem fst_mem (K : Nat → List UInt8) (k : Nat) (l : List UInt8) : (fst K k l).isSome = true ↔ l ∈ (List.range k).map K := by
  unfold fst
  rw [List.find?_isSome]
  simp only [List.mem_map, beq_iff_eq]
theorem dst_new {K : Nat → List UInt8} {i : Nat} (h : fst K i (K i) = none) : dst K (i + 1) = dst K i + 1 := by
  unfold dst
  rw [List.range_succ, List.map_append, List.map_singleton, lasts_snoc, if_neg (fun hm => by
    have := (fst_mem K i (K i)).2 hm
    rw [h] at this; cases this)]
theorem dst_old {K : Nat → List UInt8} {i j : Nat} (h : fst K i (K i) = some j) : dst K (i + 1) = dst K i := by
  unfold dst
  rw [List.range_succ, List.map_append, List.map_singleton, lasts_snoc, if_pos ((fst_mem K i (K i)).1 (by rw [h]; rfl))]; rfl
theorem dst_le (K : Nat → List UInt8) (i : Nat) : dst K i ≤ i := by
  induction i with
  | zero => simp [dst, lasts]
  | succ i ih =>
    cases h : fst K i (K i) with
    | none => rw [dst_new h]; omega
    | some j => rw [dst_old h]; omega
theorem dst_all (K : Nat → List UInt8) (n : Nat) : dst K n = cnt K n 0 := by
  unfold dst cnt sfx; rw [Nat.sub_zero, List.range_eq_range']

theorem nx_miss {K : Nat → List UInt8} {n j i : Nat} (hj : j < n) (he : (K j == K i) = false) : nx K n j (K i) = nx K n (j + 1) (K i) := by
  rw [nx_step K hj, he]; rfl
theorem nx_hit {K : Nat → List UInt8} {n j i : Nat} (hj : j < n) (he : (K j == K i) = true) : nx K n j (K i) = some j := by
  rw [nx_step K hj, he]; rfl

/-- two rows compared, wherever they are read -/
theorem sameRow {B : Nat} {W : World} {ao : Option Addr} {rs : List Rw} (hr : RowsAt B W ao rs) (hok : Ok rs) {j i : Nat} (hj : j < rs.length) (hi : i < rs.length) {x : Bool} (hx : (key rs j == key rs i) = x) (d : Nat) :
    Calls Try.prog 8 #[.slice (R rs j).a (R rs j).n (R rs j).c, .slice (R rs i).a (R rs i).n (R rs i).c] (W.drewN d) fun e w' => e = .returned (.bool x) ∧ ∃ m, w' = (W.drewN d).drewN m := by
  obtain ⟨b, off, _, _, h⟩ := hr (by omega)
  have oj := hok _ (R_mem hj)
  have oi := hok _ (R_mem hi)
  have H := sameBytes (R rs j).a (R rs i).a (R rs j).n (R rs j).c (R rs i).n (R rs i).c (R rs j).zs (R rs i).zs (W.drewN d) ((h j hj).2.1.drewN d) ((h i hi).2.1.drewN d) oj.1 oi.1
  refine H.mono fun e w' ⟨he, hw⟩ => ⟨?_, hw⟩
  rw [he, beq_key oj.2 oi.2]
  unfold key at hx
  rw [hx]
theorem sameRowQ {B : Nat} {W : World} {ao : Option Addr} {rs : List Rw} (hr : RowsAt B W ao rs) (hok : Ok rs) {j i : Nat} (hj : j < rs.length) (hi : i < rs.length) {x : Bool} (hx : (key rs j == key rs i) = x) (d k : Nat) :
    Calls Try.prog 8 #[.slice (R rs j).a (R rs j).n (R rs j).c, .slice (R rs i).a (R rs i).n (R rs i).c] (W.drewN (d + k)) fun e w' => e = .returned (.bool x) ∧ ∃ m, w' = W.drewN (d + m) :=
  (sameRow hr hok hj hi hx (d + k)).mono fun _ _ ⟨he, m, hm⟩ => ⟨he, k + m, by rw [hm, World.drewN_drewN, Nat.add_assoc]⟩


set_option maxRecDepth 100000 in
set_option maxHeartbeats 8000000 in
theorem whole (ao : Option Addr) (n c : Nat) (rs : List Rw) (w : World) (hn : n ≤ maxLen) (hz : rs.length = n) (hr : RowsAt w.heap.size w ao rs) (hok : Ok rs) (hpos : 0 < n) :
    Calls Try.prog 3 #[.slice ao n c] w fun e w' => e = .returned (.bool true) ∧ Below w.heap.size w w' := by
  obtain ⟨b, off, rfl, hbB, hrow⟩ := hr (by omega)
  have qm := fun (W : World) (r : Option Nat) => run_eql_map_nil (P := Try.prog) W 25 9 3 r Try.underlying25
  have qs := fun (W : World) (a : Option Addr) (k l : Nat) => Lib.run_eql_slice_nil (P := Try.prog) W 26 3 a k l 0 0 Try.underlying26
  have HR := hid hr
  have HOK := hid hok
  have HZ := hid hz
  have HRW0 := hid hrow
  clear hr hok hz hrow
  go_enter Try.func3, Try.ntmps3
  go_wp2_with fail
  refine (zz6 _ n c rs w hn HZ.out HR.out HOK.out).mono ?_
  rintro e w0 ⟨⟨r, rfl⟩, rfl⟩
  cases r
  · go_wp2
    go_ret
    exact ⟨rfl, Below.refl _ _⟩
  by_cases hbig : 4096 < n
  · unfold maxLen at hn
    go_wp2
    go_ret
    exact ⟨rfl, Below.refl _ _⟩
  replace hbig : n ≤ 4096 := by omega
  clear hn
  go_wp2
  go_loop [3, 4] (fun z i => ∃ (k : Nat) (t : Int), k ≤ n ∧ i = .int .i64 k ∧ z = .int .i64 t ∧ 0 ≤ t ∧ t ≤ 1048576) (fun _ i => n - (intOf i).toNat)
  case atStart => exact ⟨0, 24 * n, Nat.zero_le _, rfl, by go_num, by omega, by omega⟩
  case round =>
    obtain ⟨k, t, hk, rfl, rfl, ht0, ht1⟩ := hrel
    by_cases hlt : k < n
    · obtain ⟨c0, _, _⟩ := HRW0.out k (by rw [HZ.out]; exact hlt)
      obtain ⟨z0, _⟩ := HOK.out _ (R_mem (rs := rs) (i := k) (by rw [HZ.out]; exact hlt))
      generalize R rs k = x at *
      obtain ⟨xa, xn, xc, xz⟩ := x
      dsimp only at c0 z0
      unfold maxLen at z0
      go_wp2
      all_goals first
        | (go_ret; exact ⟨rfl, Below.refl _ _⟩)
        | skip
      go_round
      case rel => exact ⟨k + 1, _, by omega, by go_num, rfl, by omega, by omega⟩
      case measure => simp [intOf]; omega
    · have hkn : k = n := by omega
      subst hkn
      obtain ⟨n, hnk⟩ : ∃ n, n = k := ⟨_, rfl⟩
      subst hnk
      go_wp2_with fail
      refine (zzIndexOf _ n c rs w (by omega) HZ.out HR.out HOK.out).mono ?_
      rintro e wI ⟨M, G, rfl, hbI, hidx⟩
      have HBI := hid hbI
      have HRO : Hid (RowsAt w.heap.size wI (some ⟨b, off, none⟩) rs) := HR.out.below hbI
      have HRW : Hid (∀ i, i < rs.length → wI.cell? ⟨b, off + i, none⟩ = some (.slice (R rs i).a (R rs i).n (R rs i).c) ∧ Rd wI (R rs i).a (R rs i).n (R rs i).zs ∧ (0 < (R rs i).n → ∃ x, (R rs i).a = some x ∧ x.block < w.heap.size)) := by
        obtain ⟨b', off', e, _, h⟩ := HRO.out (by rw [HZ.out]; omega)
        cases e
        exact h
      have HNV : Hid (∀ i, i < n → wI.cell? ⟨G, i, none⟩ = some (.int .i64 (nval (key rs) n i))) := by
        obtain ⟨_, zs, h1, h2, h3⟩ := hidx
        intro i hi
        rw [irow_cell h1 (by rw [h2]; exact hi), h3 i hi]
      have HLEN : Hid (∀ (d : Nat) (ty : TypeId), (Builtin.len_ #[25] ty #[.map (some M)]).run Try.prog (wI.drewN d) = .ok (.int .i64 (dst (key rs) n : Nat)) (wI.drewN d)) := by
        intro d ty
        rw [dst_all]
        exact MapIs.len (w := wI.drewN d) hidx.1 Try.underlying25 ty
      have HLK0 : Hid (∀ i, i < n → ∀ d, (Instr.lookup 25 (.map (some M)) (.string (strOfNums (R rs i).zs)) true).run Try.prog (wI.drewN d) = .ok (.tuple #[.int .i64 (erl (key rs) i : Int), .bool true]) (wI.drewN d)) := by
        intro i hi d
        have hsz : (strOfNums (R rs i).zs).size ≤ maxLen := by
          rw [strOfNums_size, (HRW.out i (by rw [HZ.out]; exact hi)).2.1.1]
          exact (HOK.out _ (R_mem (by rw [HZ.out]; exact hi))).1
        have := MapIs.look_ok (w := wI.drewN d) hidx.1 law9 Try.underlying25 (zero3 _) (kl := .string (key rs i)) trivial (WideMaps.keyOf_string_mk Try.underlying9 hsz)
        rw [this]
        simp only [fmap, nx_erl hi]
        rfl
      clear hbI hidx HR HRW0
      go_wp2
      go_loopw [8, 9] (fun s j wv => ∃ (i d : Nat), i ≤ n ∧ j = .int .i64 (i : Int) ∧ s = .int .i64 (dst (key rs) i : Nat) ∧ wv = wI.drewN d) (fun _ j _ => n - (intOf j).toNat)
      case atStart => exact ⟨0, 0, Nat.zero_le _, rfl, rfl, rfl⟩
      case round =>
        obtain ⟨i, d, hi, rfl, rfl, rfl⟩ := hrel
        by_cases hlt : i < n
        · have ci : wI.cell? ⟨b, off + i, none⟩ = some (.slice (R rs i).a (R rs i).n (R rs i).c) := (HRW.out i (by rw [HZ.out]; exact hlt)).1
          have HLK := hid (HLK0.out i hlt)
          have i0 : (0 : Int) ≤ (i : Int) := by omega
          have i1 : (i : Int) < (n : Int) := by omega
          have hdl := dst_le (key rs) i
          go_wp2
          go_loopw [10, 11] (fun e j wv => ∃ (q d3 : Nat), q ≤ i ∧ j = .int .i64 (q : Int) ∧ e = .int .i64 (i : Int) ∧ fst (key rs) q (key rs i) = none ∧ wv = wI.drewN d3) (fun _ j _ => i - (intOf j).toNat)
          case atStart => exact ⟨0, d, Nat.zero_le _, rfl, rfl, rfl, rfl⟩
          case round =>
            obtain ⟨q3, d3, hq, rfl, rfl, hfs, rfl⟩ := hrel
            have HFS := hid hfs
            clear hfs
            by_cases hqi : q3 < i
            · have cq : wI.cell? ⟨b, off + q3, none⟩ = some (.slice (R rs q3).a (R rs q3).n (R rs q3).c) := (HRW.out q3 (by rw [HZ.out]; omega)).1
              have j0 : (0 : Int) ≤ (q3 : Int) := by omega
              have j1 : (q3 : Int) < (n : Int) := by omega
              cases he : (key rs q3 == key rs i)
              · have HN2 := hid (fst_miss HFS.out he)
                go_wp2
                go_quiet ((go_at_call 8; exact (sameRowQ (W := wI) HRO.out HOK.out (by rw [HZ.out]; omega) (by rw [HZ.out]; exact hlt) he _ _)))
                go_wp2
                go_roundw
                case rel => exact ⟨q3 + 1, d3 + nq, by omega, by go_num, rfl, HN2.out, rfl⟩
                case measure => simp [intOf]; omega
              · have HE := hid (erl_hit hqi HFS.out he)
                have HDO : Hid (dst (key rs) (i + 1) = dst (key rs) i) := by
                  refine dst_old (j := q3) ?_
                  have e : key rs q3 = key rs i := by simpa using he
                  rw [fst_mono i hqi e, HFS.out]; rfl
                rw [HE.out] at HLK
                have hne : ((q3 : Int) == (i : Int)) = false := by simp; omega
                go_wp2
                go_quiet ((go_at_call 8; exact (sameRowQ (W := wI) HRO.out HOK.out (by rw [HZ.out]; omega) (by rw [HZ.out]; exact hlt) he _ _)))
                clear he cq j0 j1 HFS
                go_wp2
                go_loopw [12, 13] (fun l j wv => ∃ (q d4 : Nat), i + 1 ≤ q ∧ q ≤ n ∧ j = .int .i64 (q : Int) ∧ l = .int .i64 (-1) ∧ nx (key rs) n (i + 1) (key rs i) = nx (key rs) n q (key rs i) ∧ wv = wI.drewN d4) (fun _ j _ => n - (intOf j).toNat)
                case atStart => exact ⟨i + 1, d3 + nq, Nat.le_refl _, by omega, by go_num, rfl, rfl, rfl⟩
                case round =>
                  obtain ⟨q, d4, hq1, hq2, rfl, rfl, hnx, rfl⟩ := hrel
                  have HNX := hid hnx
                  clear hnx
                  by_cases hqn : q < n
                  · have cq : wI.cell? ⟨b, off + q, none⟩ = some (.slice (R rs q).a (R rs q).n (R rs q).c) := (HRW.out q (by rw [HZ.out]; exact hqn)).1
                    have j0 : (0 : Int) ≤ (q : Int) := by omega
                    have j1 : (q : Int) < (n : Int) := by omega
                    cases he : (key rs q == key rs i)
                    · have HN2 := hid (nx_miss hqn he)
                      go_wp2
                      go_quiet ((go_at_call 8; exact (sameRowQ (W := wI) HRO.out HOK.out (by rw [HZ.out]; exact hqn) (by rw [HZ.out]; exact hlt) he _ _)))
                      go_wp2
                      go_roundw
                      case rel => exact ⟨q + 1, d4 + nq, by omega, by omega, by go_num, rfl, HNX.out.trans HN2.out, rfl⟩
                      case measure => simp [intOf]; omega
                    · have HV : Hid (nval (key rs) n i = (q : Int)) := by
                        show _ = _
                        unfold nval; rw [HNX.out, nx_hit hqn he]
                      have hnc : wI.cell? ⟨G, i, none⟩ = some (.int .i64 (q : Int)) := by rw [← HV.out]; exact HNV.out i hlt
                      go_wp2
                      go_quiet ((go_at_call 8; exact (sameRowQ (W := wI) HRO.out HOK.out (by rw [HZ.out]; exact hqn) (by rw [HZ.out]; exact hlt) he _ _)))
                      have cv : (convert 24 9 (.slice (R rs i).a (R rs i).n (R rs i).c)).run Try.prog (wI.drewN (d4 + nq)) = .ok (.string (strOfNums (R rs i).zs)) (wI.drewN (d4 + nq)) := conv_of ((HRW.out i (by rw [HZ.out]; exact hlt)).2.1.drewN _) _
                      have lk : (Instr.lookup 25 (.map (some M)) (.string (strOfNums (R rs i).zs)) true).run Try.prog (wI.drewN (d4 + nq)) = .ok (.tuple #[.int .i64 (q3 : Int), .bool true]) (wI.drewN (d4 + nq)) := HLK.out _
                      go_wp2
                      go_roundw
                      case rel => exact ⟨i + 1, (d4 + nq), by omega, by go_num, by rw [HDO.out], rfl⟩
                      case measure => simp [intOf]; omega
                  · have hqe : q = n := by omega
                    have HV : Hid (nval (key rs) n i = -1) := by
                      show _ = _
                      unfold nval; rw [HNX.out, hqe, nx_end]
                    have hnc : wI.cell? ⟨G, i, none⟩ = some (.int .i64 (-1)) := by rw [← HV.out]; exact HNV.out i hlt
                    have cv : (convert 24 9 (.slice (R rs i).a (R rs i).n (R rs i).c)).run Try.prog (wI.drewN d4) = .ok (.string (strOfNums (R rs i).zs)) (wI.drewN d4) := conv_of ((HRW.out i (by rw [HZ.out]; exact hlt)).2.1.drewN _) _
                    have lk : (Instr.lookup 25 (.map (some M)) (.string (strOfNums (R rs i).zs)) true).run Try.prog (wI.drewN d4) = .ok (.tuple #[.int .i64 (q3 : Int), .bool true]) (wI.drewN d4) := HLK.out _
                    go_wp2
                    go_roundw
                    case rel => exact ⟨i + 1, d4, by omega, by go_num, by rw [HDO.out], rfl⟩
                    case measure => simp [intOf]; omega
            · have hqe : q3 = i := by omega
              have HFS2 : Hid (fst (key rs) i (key rs i) = none) := by rw [hqe] at HFS; exact HFS
              have HE := hid (erl_self HFS2.out)
              have HDN := hid (dst_new HFS2.out)
              rw [HE.out] at HLK
              clear hqe
              go_wp2
              go_loopw [12, 13] (fun l j wv => ∃ (q d4 : Nat), i + 1 ≤ q ∧ q ≤ n ∧ j = .int .i64 (q : Int) ∧ l = .int .i64 (-1) ∧ nx (key rs) n (i + 1) (key rs i) = nx (key rs) n q (key rs i) ∧ wv = wI.drewN d4) (fun _ j _ => n - (intOf j).toNat)
              case atStart => exact ⟨i + 1, d3, Nat.le_refl _, by omega, by go_num, rfl, rfl, rfl⟩
              case round =>
                obtain ⟨q, d4, hq1, hq2, rfl, rfl, hnx, rfl⟩ := hrel
                have HNX := hid hnx
                clear hnx
                by_cases hqn : q < n
                · have cq : wI.cell? ⟨b, off + q, none⟩ = some (.slice (R rs q).a (R rs q).n (R rs q).c) := (HRW.out q (by rw [HZ.out]; exact hqn)).1
                  have j0 : (0 : Int) ≤ (q : Int) := by omega
                  have j1 : (q : Int) < (n : Int) := by omega
                  cases he : (key rs q == key rs i)
                  · have HN2 := hid (nx_miss hqn he)
                    go_wp2
                    go_quiet ((go_at_call 8; exact (sameRowQ (W := wI) HRO.out HOK.out (by rw [HZ.out]; exact hqn) (by rw [HZ.out]; exact hlt) he _ _)))
                    go_wp2
                    go_roundw
                    case rel => exact ⟨q + 1, d4 + nq, by omega, by omega, by go_num, rfl, HNX.out.trans HN2.out, rfl⟩
                    case measure => simp [intOf]; omega
                  · have HV : Hid (nval (key rs) n i = (q : Int)) := by
                      show _ = _
                      unfold nval; rw [HNX.out, nx_hit hqn he]
                    have hnc : wI.cell? ⟨G, i, none⟩ = some (.int .i64 (q : Int)) := by rw [← HV.out]; exact HNV.out i hlt
                    go_wp2
                    go_quiet ((go_at_call 8; exact (sameRowQ (W := wI) HRO.out HOK.out (by rw [HZ.out]; exact hqn) (by rw [HZ.out]; exact hlt) he _ _)))
                    have cv : (convert 24 9 (.slice (R rs i).a (R rs i).n (R rs i).c)).run Try.prog (wI.drewN (d4 + nq)) = .ok (.string (strOfNums (R rs i).zs)) (wI.drewN (d4 + nq)) := conv_of ((HRW.out i (by rw [HZ.out]; exact hlt)).2.1.drewN _) _
                    have lk : (Instr.lookup 25 (.map (some M)) (.string (strOfNums (R rs i).zs)) true).run Try.prog (wI.drewN (d4 + nq)) = .ok (.tuple #[.int .i64 (i : Int), .bool true]) (wI.drewN (d4 + nq)) := HLK.out _
                    go_wp2
                    go_roundw
                    case rel => exact ⟨i + 1, (d4 + nq), by omega, by go_num, by rw [HDN.out]; simp, rfl⟩
                    case measure => simp [intOf]; omega
                · have hqe : q = n := by omega
                  have HV : Hid (nval (key rs) n i = -1) := by
                    show _ = _
                    unfold nval; rw [HNX.out, hqe, nx_end]
                  have hnc : wI.cell? ⟨G, i, none⟩ = some (.int .i64 (-1)) := by rw [← HV.out]; exact HNV.out i hlt
                  have cv : (convert 24 9 (.slice (R rs i).a (R rs i).n (R rs i).c)).run Try.prog (wI.drewN d4) = .ok (.string (strOfNums (R rs i).zs)) (wI.drewN d4) := conv_of ((HRW.out i (by rw [HZ.out]; exact hlt)).2.1.drewN _) _
                  have lk : (Instr.lookup 25 (.map (some M)) (.string (strOfNums (R rs i).zs)) true).run Try.prog (wI.drewN d4) = .ok (.tuple #[.int .i64 (i : Int), .bool true]) (wI.drewN d4) := HLK.out _
                  go_wp2
                  go_roundw
                  case rel => exact ⟨i + 1, d4, by omega, by go_num, by rw [HDN.out]; simp, rfl⟩
                  case measure => simp [intOf]; omega
        · have hin : i = n := by omega
          subst hin
          have hlen := HLEN.out d
          go_wp2
          go_ret
          exact ⟨rfl, below_drewN HBI.out _⟩
end Go.Proofs.Qxb6603010a.Pr
