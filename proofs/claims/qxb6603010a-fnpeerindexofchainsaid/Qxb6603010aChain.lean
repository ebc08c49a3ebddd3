import Derived.Test.Qxb6603010aWhole
namespace Go.Proofs.Qxb6603010a.Pr
open Go.RowKit Go.Maps Mp

def nxI (K : Nat → List UInt8) (n j : Nat) (l : List UInt8) : Int := match nx K n j l with | some q => (q : Int) | none => -1
theorem nxI_hit {K : Nat → List UInt8} {n j q : Nat} {l : List UInt8} (h : nx K n j l = nx K n q l) (hq : q < n) (he : (K q == l) = true) : nxI K n j l = (q : Int) ∧ nval K n q = nxI K n (q + 1) l := by
  have e : K q = l := by simpa using he
  constructor
  · unfold nxI; rw [h, nx_step K hq, he]; rfl
  · unfold nval nxI; rw [e]; rfl
theorem nxI_end {K : Nat → List UInt8} {n j : Nat} {l : List UInt8} (h : nx K n j l = nx K n n l) : nxI K n j l = -1 ∧ (nx K n j l).isSome = false := by
  unfold nxI; rw [h, nx_end]; exact ⟨rfl, rfl⟩
theorem nx_pass {K : Nat → List UInt8} {n q : Nat} {l : List UInt8} (hq : q < n) (he : (K q == l) = false) : nx K n q l = nx K n (q + 1) l := by
  rw [nx_step K hq, he]; rfl

/-- a row and the probe compared -/
theorem sameProbe {B : Nat} {W : World} {ao : Option Addr} {rs : List Rw} (hr : RowsAt B W ao rs) (hok : Ok rs) {pa : Option Addr} {pn pc : Nat} {pz : List Int} (hp : Rd W pa pn pz) (hpn : pn ≤ maxLen) (hpb : Byt pz) {j : Nat} (hj : j < rs.length) {x : Bool} (hx : (key rs j == (strOfNums pz).data.toList) = x) (d : Nat) :
    Calls Try.prog 8 #[.slice (R rs j).a (R rs j).n (R rs j).c, .slice pa pn pc] (W.drewN d) fun e w' => e = .returned (.bool x) ∧ ∃ m, w' = W.drewN m := by
  obtain ⟨b, off, _, _, h⟩ := hr (by omega)
  have oj := hok _ (R_mem hj)
  have H := sameBytes (R rs j).a pa (R rs j).n (R rs j).c pn pc (R rs j).zs pz (W.drewN d) ((h j hj).2.1.drewN d) (hp.drewN d) oj.1 hpn
  refine H.mono fun e w' ⟨he, m, hw⟩ => ⟨?_, d + m, by rw [hw, World.drewN_drewN]⟩
  rw [he, beq_key oj.2 hpb]
  unfold key at hx
  rw [hx]

set_option maxRecDepth 100000 in
set_option maxHeartbeats 8000000 in
theorem chain (ao : Option Addr) (n c : Nat) (rs : List Rw) (pa : Option Addr) (pn pc : Nat) (pz : List Int) (w : World) (hn : n ≤ maxLen) (hz : rs.length = n) (hr : RowsAt w.heap.size w ao rs) (hok : Ok rs)
    (hp : Rd w pa pn pz) (hpn : pn ≤ maxLen) (hpb : Byt pz) (hpos : 0 < n) :
    Calls Try.prog 4 #[.slice ao n c, .slice pa pn pc] w fun e w' => e = .returned (.bool true) ∧ Below w.heap.size w w' := by
  obtain ⟨b, off, rfl, hbB, hrow⟩ := hr (by omega)
  have HRW0 := hid hrow
  clear hrow
  have HR := hid hr
  have HOK := hid hok
  have HZ := hid hz
  have HP := hid hp
  have HPB := hid hpb
  have HPN := hid hpn
  clear hr hok hz hp hpb
  go_enter Try.func4, Try.ntmps4
  go_wp2_with fail
  refine (zz9 _ n c rs w hn HZ.out HR.out HOK.out pa pn pc HPN.out).mono ?_
  rintro e w0 ⟨⟨r, rfl⟩, rfl⟩
  unfold maxLen at hn hpn
  cases r
  · go_wp2
    go_ret
    exact ⟨rfl, Below.refl _ _⟩
  by_cases hbig : 32768 < n
  · go_wp2
    go_ret
    exact ⟨rfl, Below.refl _ _⟩
  by_cases hpbig : 1048576 < pn
  · go_wp2
    go_ret
    exact ⟨rfl, Below.refl _ _⟩
  by_cases htot : 1048576 < 24 * n + pn
  · have htot' : (1048576 : Int) < 24 * (n : Int) + (pn : Int) := by omega
    go_wp2
    go_ret
    exact ⟨rfl, Below.refl _ _⟩
  replace hbig : n ≤ 32768 := by omega
  have htot' : 24 * (n : Int) + (pn : Int) ≤ (1048576 : Int) := by omega
  clear hn hpn
  go_wp2
  go_loop [5, 6] (fun z i => ∃ (k : Nat) (t : Int), k ≤ n ∧ i = .int .i64 k ∧ z = .int .i64 t ∧ 0 ≤ t ∧ t ≤ 1048576) (fun _ i => n - (intOf i).toNat)
  case atStart => exact ⟨0, 24 * n + pn, Nat.zero_le _, rfl, by go_num, by omega, by omega⟩
  case round =>
    obtain ⟨k, t, hk, rfl, rfl, ht0, ht1⟩ := hrel
    by_cases hlt : k < n
    · obtain ⟨c0, _, _⟩ := HRW0.out k (by rw [HZ.out]; exact hlt)
      obtain ⟨z0, _⟩ := HOK.out _ (R_mem (rs := rs) (i := k) (by rw [HZ.out]; exact hlt))
      generalize R rs k = x at *
      obtain ⟨xa, xn, xc, xz⟩ := x
      dsimp only at c0 z0
      unfold maxLen at z0
      go_wp2
      all_goals first
        | (go_ret; exact ⟨rfl, Below.refl _ _⟩)
        | skip
      go_round
      case rel => exact ⟨k + 1, _, by omega, by go_num, rfl, by omega, by omega⟩
      case measure => simp [intOf]; omega
    · have hkn : k = n := by omega
      subst hkn
      obtain ⟨n, hnk⟩ : ∃ n, n = k := ⟨_, rfl⟩
      subst hnk
      go_wp2_with fail
      refine (zzIndexOf _ n c rs w (by omega) HZ.out HR.out HOK.out).mono ?_
      rintro e wI ⟨M, G, rfl, hbI, hidx⟩
      have HBI := hid hbI
      have HRO : Hid (RowsAt w.heap.size wI (some ⟨b, off, none⟩) rs) := HR.out.below hbI
      have HRW : Hid (∀ i, i < rs.length → wI.cell? ⟨b, off + i, none⟩ = some (.slice (R rs i).a (R rs i).n (R rs i).c) ∧ Rd wI (R rs i).a (R rs i).n (R rs i).zs ∧ (0 < (R rs i).n → ∃ x, (R rs i).a = some x ∧ x.block < w.heap.size)) := by
        obtain ⟨b', off', e, _, h⟩ := HRO.out (by rw [HZ.out]; omega)
        cases e
        exact h
      have HPI : Hid (Rd wI pa pn pz) := HP.out.below hbI (Nat.le_refl _)
      have HNV : Hid (∀ i, i < n → wI.cell? ⟨G, i, none⟩ = some (.int .i64 (nval (key rs) n i))) := by
        obtain ⟨_, zs, h1, h2, h3⟩ := hidx
        intro i hi
        rw [irow_cell h1 (by rw [h2]; exact hi), h3 i hi]
      have cv := conv_of HPI.out pc
      have hsz : (strOfNums pz).size ≤ maxLen := by rw [strOfNums_size, HPI.out.1]; exact HPN.out
      have hlk := MapIs.look_ok (w := wI) hidx.1 law9 Try.underlying25 (zero3 _) (kl := .string (strOfNums pz).data.toList) trivial (WideMaps.keyOf_string_mk Try.underlying9 hsz)
      simp only [fmap] at hlk
      obtain ⟨pk, hpk⟩ : ∃ pk, pk = (strOfNums pz).data.toList := ⟨_, rfl⟩
      rw [← hpk] at hlk
      have HPK := hid hpk
      clear hbI hidx HR HRW0 hsz hpk
      cases hnx : nx (key rs) n 0 pk with
      | none =>
        rw [hnx] at hlk
        have HST : Hid (nxI (key rs) n 0 pk = -1) := by show _ = _; unfold nxI; rw [hnx]
        have HOKB : Hid ((nx (key rs) n 0 pk).isSome = false) := by show _ = _; rw [hnx]; rfl
        clear hnx
        simp only [Option.map_none, Option.getD_none, Option.isSome_none] at hlk
        go_wp2
        clear hlk cv
        go_loopw [10, 12, 13] (fun p j s wv => ∃ (st j0 d : Nat) (pv : Int), st ≤ j0 ∧ j0 ≤ n ∧ (st = 0 → j0 = 0) ∧ s = .int .i64 (st : Int) ∧ j = .int .i64 (j0 : Int) ∧ p = .int .i64 pv ∧ pv = nxI (key rs) n j0 pk ∧ wv = wI.drewN d) (fun _ j _ _ => n - (intOf j).toNat)
        case atStart => exact ⟨0, 0, 0, -1, Nat.zero_le _, Nat.zero_le _, fun _ => rfl, rfl, rfl, rfl, HST.out.symm, rfl⟩
        case round =>
          obtain ⟨st, j0, d, pv, hst, hj, hst0, rfl, rfl, rfl, hpv, rfl⟩ := hrel
          have HPV := hid hpv
          have HS0 := hid hst0
          clear hpv hst0
          have s1 : (st : Int) ≤ (n : Int) := by omega
          go_wp2
          go_loopw [12] (fun j wv => ∃ (q d4 : Nat), j0 ≤ q ∧ q ≤ n ∧ j = .int .i64 (q : Int) ∧ nx (key rs) n j0 pk = nx (key rs) n q pk ∧ wv = wI.drewN d4) (fun j _ => n - (intOf j).toNat)
          case atStart => exact ⟨j0, d, Nat.le_refl _, hj, rfl, rfl, rfl⟩
          case round =>
            obtain ⟨q, d4, hq1, hq2, rfl, hnx, rfl⟩ := hrel
            have HNX := hid hnx
            clear hnx
            by_cases hqn : q < n
            · have cq : wI.cell? ⟨b, off + q, none⟩ = some (.slice (R rs q).a (R rs q).n (R rs q).c) := (HRW.out q (by rw [HZ.out]; exact hqn)).1
              have j0' : (0 : Int) ≤ (q : Int) := by omega
              have j1' : (q : Int) < (n : Int) := by omega
              cases he : (key rs q == pk)
              · have HN2 := hid (nx_pass hqn he)
                go_wp2_with fail
                refine (sameProbe (W := wI) (x := false) HRO.out HOK.out HPI.out HPN.out HPB.out (by rw [HZ.out]; exact hqn) (by rw [← HPK.out]; exact he) d4).mono ?_
                rintro e w' ⟨rfl, m, rfl⟩
                go_wp2
                go_roundw
                case rel => exact ⟨q + 1, m, by omega, by omega, by go_num, HNX.out.trans HN2.out, rfl⟩
                case measure => simp [intOf]; omega
              · obtain ⟨e1, e2⟩ := nxI_hit HNX.out hqn he
                have HE2 := hid e2
                have hpq : pv = (q : Int) := HPV.out.trans e1
                have hcell : wI.cell? ⟨G, q, none⟩ = some (.int .i64 (nxI (key rs) n (q + 1) pk)) := by rw [← e2]; exact HNV.out q hqn
                rw [hpq]
                clear e1 e2 hpq
                have hne : ((q : Int) == (n : Int)) = false := by simp; omega
                go_wp2_with fail
                refine (sameProbe (W := wI) (x := true) HRO.out HOK.out HPI.out HPN.out HPB.out (by rw [HZ.out]; exact hqn) (by rw [← HPK.out]; exact he) d4).mono ?_
                rintro e w' ⟨rfl, m, rfl⟩
                go_wp2
                go_roundw
                case rel => exact ⟨st + 1, q + 1, m, _, by omega, by omega, fun h => by omega, by go_num, by go_num, rfl, rfl, rfl⟩
                case measure => simp [intOf]; omega
            · have hqe : q = n := by omega
              have hee : ((q : Int) == (n : Int)) = true := by simp; omega
              by_cases hs0 : st = 0
              · have hj0 : j0 = 0 := HS0.out hs0
                subst hs0
                go_wp2
                go_ret
                exact ⟨rfl, below_drewN HBI.out _⟩
              · have hs0' : ((st : Int) == 0) = false := by simp; omega
                have hpq : pv = -1 := by
                  rw [hqe] at HNX
                  exact HPV.out.trans (nxI_end HNX.out).1
                rw [hpq]
                clear hqe
                go_wp2
                go_ret
                exact ⟨rfl, below_drewN HBI.out _⟩
      | some s0 =>
        rw [hnx] at hlk
        have HST : Hid (nxI (key rs) n 0 pk = (s0 : Int)) := by show _ = _; unfold nxI; rw [hnx]
        have HOKB : Hid ((nx (key rs) n 0 pk).isSome = true) := by show _ = _; rw [hnx]; rfl
        clear hnx
        simp only [Option.map_some, Option.getD_some, Option.isSome_some] at hlk
        go_wp2
        clear hlk cv
        go_loopw [10, 12, 13] (fun p j s wv => ∃ (st j0 d : Nat) (pv : Int), st ≤ j0 ∧ j0 ≤ n ∧ (st = 0 → j0 = 0) ∧ s = .int .i64 (st : Int) ∧ j = .int .i64 (j0 : Int) ∧ p = .int .i64 pv ∧ pv = nxI (key rs) n j0 pk ∧ wv = wI.drewN d) (fun _ j _ _ => n - (intOf j).toNat)
        case atStart => exact ⟨0, 0, 0, (s0 : Int), Nat.zero_le _, Nat.zero_le _, fun _ => rfl, rfl, rfl, rfl, HST.out.symm, rfl⟩
        case round =>
          obtain ⟨st, j0, d, pv, hst, hj, hst0, rfl, rfl, rfl, hpv, rfl⟩ := hrel
          have HPV := hid hpv
          have HS0 := hid hst0
          clear hpv hst0
          have s1 : (st : Int) ≤ (n : Int) := by omega
          go_wp2
          go_loopw [12] (fun j wv => ∃ (q d4 : Nat), j0 ≤ q ∧ q ≤ n ∧ j = .int .i64 (q : Int) ∧ nx (key rs) n j0 pk = nx (key rs) n q pk ∧ wv = wI.drewN d4) (fun j _ => n - (intOf j).toNat)
          case atStart => exact ⟨j0, d, Nat.le_refl _, hj, rfl, rfl, rfl⟩
          case round =>
            obtain ⟨q, d4, hq1, hq2, rfl, hnx, rfl⟩ := hrel
            have HNX := hid hnx
            clear hnx
            by_cases hqn : q < n
            · have cq : wI.cell? ⟨b, off + q, none⟩ = some (.slice (R rs q).a (R rs q).n (R rs q).c) := (HRW.out q (by rw [HZ.out]; exact hqn)).1
              have j0' : (0 : Int) ≤ (q : Int) := by omega
              have j1' : (q : Int) < (n : Int) := by omega
              cases he : (key rs q == pk)
              · have HN2 := hid (nx_pass hqn he)
                go_wp2_with fail
                refine (sameProbe (W := wI) (x := false) HRO.out HOK.out HPI.out HPN.out HPB.out (by rw [HZ.out]; exact hqn) (by rw [← HPK.out]; exact he) d4).mono ?_
                rintro e w' ⟨rfl, m, rfl⟩
                go_wp2
                go_roundw
                case rel => exact ⟨q + 1, m, by omega, by omega, by go_num, HNX.out.trans HN2.out, rfl⟩
                case measure => simp [intOf]; omega
              · obtain ⟨e1, e2⟩ := nxI_hit HNX.out hqn he
                have HE2 := hid e2
                have hpq : pv = (q : Int) := HPV.out.trans e1
                have hcell : wI.cell? ⟨G, q, none⟩ = some (.int .i64 (nxI (key rs) n (q + 1) pk)) := by rw [← e2]; exact HNV.out q hqn
                rw [hpq]
                clear e1 e2 hpq
                have hne : ((q : Int) == (n : Int)) = false := by simp; omega
                go_wp2_with fail
                refine (sameProbe (W := wI) (x := true) HRO.out HOK.out HPI.out HPN.out HPB.out (by rw [HZ.out]; exact hqn) (by rw [← HPK.out]; exact he) d4).mono ?_
                rintro e w' ⟨rfl, m, rfl⟩
                go_wp2
                go_roundw
                case rel => exact ⟨st + 1, q + 1, m, _, by omega, by omega, fun h => by omega, by go_num, by go_num, rfl, rfl, rfl⟩
                case measure => simp [intOf]; omega
            · have hqe : q = n := by omega
              have hee : ((q : Int) == (n : Int)) = true := by simp; omega
              by_cases hs0 : st = 0
              · have hj0 : j0 = 0 := HS0.out hs0
                subst hs0
                exfalso
                have h1 := HOKB.out
                rw [hj0, hqe] at HNX
                rw [(nxI_end HNX.out).2] at h1
                cases h1
              · have hs0' : ((st : Int) == 0) = false := by simp; omega
                have hpq : pv = -1 := by
                  rw [hqe] at HNX
                  exact HPV.out.trans (nxI_end HNX.out).1
                rw [hpq]
                clear hqe
                go_wp2
                go_ret
                exact ⟨rfl, below_drewN HBI.out _⟩
end Go.Proofs.Qxb6603010a.Pr
