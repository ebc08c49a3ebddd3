import Derived.Test.Qxb6603046aHexClone
namespace Go.Proofs.Qxb6603046a.Hx
open Go.RowKit

/-- the last t digits of the first K, at their places -/
def low (zs : List Int) (K : Nat) : Nat → Int
  | 0 => 0
  | t + 1 => low zs K t + hx (zs.getD (K - 1 - t) 0) * 16 ^ t
theorem val_low (zs : List Int) (K : Nat) (hK : K ≤ zs.length) : ∀ t, t ≤ K → val (zs.take K) = val (zs.take (K - t)) * 16 ^ t + low zs K t
  | 0, _ => by simp [low]
  | t + 1, h => by
    rw [val_low zs K hK t (by omega)]
    have e : K - t = (K - (t + 1)) + 1 := by omega
    rw [e, take_snoc_int zs _ (by omega), val_snoc]
    show _ = val (zs.take (K - (t + 1))) * 16 ^ (t + 1) + (low zs K t + hx (zs.getD (K - 1 - t) 0) * 16 ^ t)
    rw [show K - 1 - t = K - (t + 1) by omega, Int.pow_succ]
    generalize val (zs.take (K - (t + 1))) = V
    generalize hx (zs.getD (K - (t + 1)) 0) = h
    generalize (16 : Int) ^ t = p
    rw [Int.add_mul, Int.mul_comm 16 V, Int.mul_assoc, Int.mul_comm 16 p]
    omega
theorem val_mod (zs : List Int) (K : Nat) (hK : K ≤ zs.length) : val (zs.take K) % 4294967296 = low zs K (min K 8) % 4294967296 := by
  rw [val_low zs K hK (min K 8) (by omega)]
  by_cases h : K ≤ 8
  · rw [show min K 8 = K by omega, Nat.sub_self]
    simp [val]
  · rw [show min K 8 = 8 by omega, show (16 : Int) ^ 8 = 4294967296 from rfl]
    omega

theorem low_step (zs : List Int) (k q : Nat) (h : q < k) : low zs k (k - q) = low zs k (k - (q + 1)) + hx (zs.getD q 0) * 16 ^ (k - (q + 1)) := by
  rw [show k - q = (k - (q + 1)) + 1 by omega]
  show low zs k (k - (q + 1)) + hx (zs.getD (k - 1 - (k - (q + 1))) 0) * 16 ^ (k - (q + 1)) = _
  rw [show k - 1 - (k - (q + 1)) = q by omega]
theorem vmod (a h p : Int) : (a % 4294967296 + h * (p % 4294967296) % 4294967296) % 4294967296 = (a + h * p) % 4294967296 := by
  rw [Int.mul_emod h (p % 4294967296), Int.emod_emod_of_dvd p (Int.dvd_refl _), ← Int.mul_emod, ← Int.add_emod]
theorem pmod (p : Int) : p % 4294967296 * 16 % 4294967296 = p * 16 % 4294967296 := by omega
theorem Rd.grown {w w' : World} {a : Option Addr} {n : Nat} {zs : List Int} (h : Rd w a n zs) (hg : w.grownBy w' none) : Rd w' a n zs := by
  obtain ⟨h1, h2, h3⟩ := h
  refine ⟨h1, h2, fun hn => ?_⟩
  obtain ⟨b, off, e, hc⟩ := h3 hn
  refine ⟨b, off, e, fun i hi => ?_⟩
  have c0 := hc i hi
  have e := hg.block b (World.block_lt_of_cell? w _ c0) (by simp)
  simp only [World.cell?] at c0 ⊢
  rw [e]
  exact c0

set_option maxHeartbeats 4000000 in
theorem exact_some (a : Option Addr) (n c : Nat) (zs : List Int) (w : World) (hn : n ≤ 1048576) (h0 : 0 < n) (hr : Rd w a n zs) (hb : ∀ y ∈ zs, 0 ≤ y ∧ y < 256) :
    Calls Try.prog 3 #[.slice a n c] w fun e w' => e = .returned (.bool true) ∧ Below w.heap.size w w' := by
  have HR := hid hr
  have HB := hid hb
  clear hr hb
  have hd : decide (n ≤ 1048576) = true := decide_eq_true hn
  go_enter Try.func3, Try.ntmps3
  go_wp2_with (first
    | (go_at_call 7; refine (zz7 _ n c _ (by unfold maxLen; omega)).mono ?_; rintro e w0 ⟨rfl, rfl⟩)
    | (go_at_call 8; refine (clone a n c zs _ hn HR.out).mono ?_; rintro e w1 ⟨a', c', rfl, hg, hr1⟩; obtain ⟨b, off, rfl, hc1⟩ := hr1.2.2 h0; have HG := hid hg; have HR1 := hid hr1; have HC := hid hc1; clear hg hr1 hc1)
    | fail)
  go_loop [3] (fun i => ∃ k : Nat, k ≤ n ∧ i = .int .i64 (k : Int) ∧ ∀ j, j < k → 0 ≤ hx (zs.getD j 0)) (fun i => n - (intOf i).toNat)
  case atStart => exact ⟨0, Nat.zero_le _, rfl, fun j hj => absurd hj (Nat.not_lt_zero _)⟩
  case round =>
    obtain ⟨k, hk, rfl, hall⟩ := hrel
    have HALL := hid hall
    clear hall
    by_cases hlt : k < n ∧ 0 ≤ hx (zs.getD k 0)
    · obtain ⟨hlt, hh⟩ := hlt
      obtain ⟨y, hy⟩ : ∃ y, y = zs.getD k 0 := ⟨_, rfl⟩
      have c1 := HC.out k hlt
      rw [← hy] at c1 hh
      obtain ⟨y0, y1⟩ : 0 ≤ y ∧ y < 256 := by
        rw [hy, List.getD_eq_getElem?_getD, List.getElem?_eq_getElem (by rw [HR.out.1]; exact hlt)]
        exact HB.out _ (List.getElem_mem _)
      have HY := hid hy
      clear hy
      have j0 : (0 : Int) ≤ (k : Int) := by omega
      have j1 : (k : Int) < (n : Int) := by omega
      go_wp2_with (first | (go_at_call 9; refine (hexValue y _ y0 y1).mono ?_; rintro e w2 ⟨rfl, rfl⟩) | fail)
      go_round
      case rel =>
        refine ⟨k + 1, by omega, by go_num, fun j hj => ?_⟩
        by_cases e : j = k
        · rw [e, ← HY.out]; exact hh
        · exact HALL.out j (by omega)
      case measure => simp [intOf]; omega
    · have HK : Hid (run zs = k) := by
        by_cases hl : k < n
        · exact run_stop zs k (by rw [HR.out.1]; exact hl) HALL.out (by
            have := fun h => hlt ⟨hl, h⟩
            omega)
        · exact (run_all zs (fun j hj => HALL.out j (by have := HR.out.1; omega))).trans (by have := HR.out.1; omega)
      have hcase : (k < n ∧ hx (zs.getD k 0) < 0) ∨ k = n := by
        by_cases hl : k < n
        · exact .inl ⟨hl, by have := fun h => hlt ⟨hl, h⟩; omega⟩
        · exact .inr (by omega)
      clear hlt
      rcases hcase with ⟨hlt, hh⟩ | hkn
      · obtain ⟨y, hy⟩ : ∃ y, y = zs.getD k 0 := ⟨_, rfl⟩
        have c1 := HC.out k hlt
        rw [← hy] at c1 hh
        obtain ⟨y0, y1⟩ : 0 ≤ y ∧ y < 256 := by
          rw [hy, List.getD_eq_getElem?_getD, List.getElem?_eq_getElem (by rw [HR.out.1]; exact hlt)]
          exact HB.out _ (List.getElem_mem _)
        have HY := hid hy
        clear hy
        have j0 : (0 : Int) ≤ (k : Int) := by omega
        have j1 : (k : Int) < (n : Int) := by omega
        by_cases h8 : 8 < k
        · have h8b : decide ((8 : Int) < (k : Int)) = true := decide_eq_true (by omega)
          go_wp2_with (first | (go_at_call 9; refine (hexValue y _ y0 y1).mono ?_; rintro e w2 ⟨rfl, rfl⟩) | fail)
          go_loop [5, 6, 7] (fun v p j => ∃ (m : Nat) (V P : Int), (k - 8) ≤ m ∧ m ≤ k ∧ j = .int .i64 ((m : Int) - 1) ∧ v = .int .u32 V ∧ p = .int .u32 P ∧ V = low zs k (k - m) % 4294967296 ∧ P = 16 ^ (k - m) % 4294967296) (fun _ _ j => (intOf j + 1).toNat)
          case atStart => exact ⟨k, 0, 1, by omega, Nat.le_refl _, by go_num, rfl, rfl, by rw [Nat.sub_self]; rfl, by rw [Nat.sub_self]; rfl⟩
          case round =>
            obtain ⟨m, V, P, hsm, hmk, rfl, rfl, rfl, hV, hP⟩ := hrel
            have HV := hid hV
            have HP := hid hP
            obtain ⟨V0, V1⟩ : 0 ≤ V ∧ V < 4294967296 := by omega
            obtain ⟨P0, P1⟩ : 0 ≤ P ∧ P < 4294967296 := by
              rw [hP]; exact ⟨Int.emod_nonneg _ (by decide), Int.emod_lt_of_pos _ (by decide)⟩
            clear hV hP
            by_cases hm : (k - 8) < m
            · obtain ⟨q, rfl⟩ : ∃ q, m = q + 1 := ⟨m - 1, by omega⟩
              have eq : (((q + 1 : Nat) : Int)) - 1 = (q : Int) := by omega
              rw [eq]
              obtain ⟨z, hz⟩ : ∃ z, z = zs.getD q 0 := ⟨_, rfl⟩
              have d1 := HC.out q (by omega)
              rw [← hz] at d1
              obtain ⟨z0, z1⟩ : 0 ≤ z ∧ z < 256 := by
                rw [hz, List.getD_eq_getElem?_getD, List.getElem?_eq_getElem (by rw [HR.out.1]; omega)]
                exact HB.out _ (List.getElem_mem _)
              obtain ⟨g0, g1⟩ : 0 ≤ hx z ∧ hx z < 16 := ⟨by rw [hz]; exact HALL.out q (by omega), hx_lt z⟩
              have HZ := hid hz
              clear hz
              have i0 : (0 : Int) ≤ (q : Int) := by omega
              have i1 : (q : Int) < (n : Int) := by omega
              have i2 : (((k : Int) - 8 : Int)) ≤ (q : Int) := by omega
              go_wp2_with (first | (go_at_call 9; refine (hexValue z _ z0 z1).mono ?_; rintro e w3 ⟨rfl, rfl⟩) | fail)
              go_round
              case rel =>
                refine ⟨q, _, _, by omega, by omega, by go_num, rfl, rfl, ?_, ?_⟩
                · rw [HV.out, HP.out, low_step zs k q (by omega), ← HZ.out]
                  exact vmod _ _ _
                · rw [HP.out, show k - q = (k - (q + 1)) + 1 by omega, Int.pow_succ]
                  exact pmod _
              case measure => simp [intOf] <;> omega
            · have hms : m = (k - 8) := by omega
              have i2 : ¬ ((k : Int) - 8 : Int) ≤ (m : Int) - 1 := by omega
              have FIN : Hid (IntKind.i32.wrap (val (zs.take k)) = IntKind.i32.wrap V) := by
                refine wrap_congr ?_
                rw [val_mod zs k (by rw [HR.out.1]; exact hk), HV.out, Int.emod_emod_of_dvd _ (Int.dvd_refl _), show min k 8 = k - m by omega]
              go_wp2_with (first | (go_at_call 10; refine (zzHex _ n c' zs _ (by omega) HR1.out HB.out).mono ?_; rintro e w3 ⟨rfl, rfl⟩; rw [HK.out, FIN.out]) | fail)
              go_ret
              exact ⟨ret_bool (by simp), (Below.refl _ w).grown HG.out (Nat.le_refl _) (fun k hk => by cases hk)⟩
        · have h8b : decide ((8 : Int) < (k : Int)) = false := decide_eq_false (by omega)
          go_wp2_with (first | (go_at_call 9; refine (hexValue y _ y0 y1).mono ?_; rintro e w2 ⟨rfl, rfl⟩) | fail)
          go_loop [5, 6, 7] (fun v p j => ∃ (m : Nat) (V P : Int), 0 ≤ m ∧ m ≤ k ∧ j = .int .i64 ((m : Int) - 1) ∧ v = .int .u32 V ∧ p = .int .u32 P ∧ V = low zs k (k - m) % 4294967296 ∧ P = 16 ^ (k - m) % 4294967296) (fun _ _ j => (intOf j + 1).toNat)
          case atStart => exact ⟨k, 0, 1, by omega, Nat.le_refl _, by go_num, rfl, rfl, by rw [Nat.sub_self]; rfl, by rw [Nat.sub_self]; rfl⟩
          case round =>
            obtain ⟨m, V, P, hsm, hmk, rfl, rfl, rfl, hV, hP⟩ := hrel
            have HV := hid hV
            have HP := hid hP
            obtain ⟨V0, V1⟩ : 0 ≤ V ∧ V < 4294967296 := by omega
            obtain ⟨P0, P1⟩ : 0 ≤ P ∧ P < 4294967296 := by
              rw [hP]; exact ⟨Int.emod_nonneg _ (by decide), Int.emod_lt_of_pos _ (by decide)⟩
            clear hV hP
            by_cases hm : 0 < m
            · obtain ⟨q, rfl⟩ : ∃ q, m = q + 1 := ⟨m - 1, by omega⟩
              have eq : (((q + 1 : Nat) : Int)) - 1 = (q : Int) := by omega
              rw [eq]
              obtain ⟨z, hz⟩ : ∃ z, z = zs.getD q 0 := ⟨_, rfl⟩
              have d1 := HC.out q (by omega)
              rw [← hz] at d1
              obtain ⟨z0, z1⟩ : 0 ≤ z ∧ z < 256 := by
                rw [hz, List.getD_eq_getElem?_getD, List.getElem?_eq_getElem (by rw [HR.out.1]; omega)]
                exact HB.out _ (List.getElem_mem _)
              obtain ⟨g0, g1⟩ : 0 ≤ hx z ∧ hx z < 16 := ⟨by rw [hz]; exact HALL.out q (by omega), hx_lt z⟩
              have HZ := hid hz
              clear hz
              have i0 : (0 : Int) ≤ (q : Int) := by omega
              have i1 : (q : Int) < (n : Int) := by omega
              have i2 : ((0 : Int)) ≤ (q : Int) := by omega
              go_wp2_with (first | (go_at_call 9; refine (hexValue z _ z0 z1).mono ?_; rintro e w3 ⟨rfl, rfl⟩) | fail)
              go_round
              case rel =>
                refine ⟨q, _, _, by omega, by omega, by go_num, rfl, rfl, ?_, ?_⟩
                · rw [HV.out, HP.out, low_step zs k q (by omega), ← HZ.out]
                  exact vmod _ _ _
                · rw [HP.out, show k - q = (k - (q + 1)) + 1 by omega, Int.pow_succ]
                  exact pmod _
              case measure => simp [intOf] <;> omega
            · have hms : m = 0 := by omega
              have i2 : ¬ (0 : Int) ≤ (m : Int) - 1 := by omega
              have FIN : Hid (IntKind.i32.wrap (val (zs.take k)) = IntKind.i32.wrap V) := by
                refine wrap_congr ?_
                rw [val_mod zs k (by rw [HR.out.1]; exact hk), HV.out, Int.emod_emod_of_dvd _ (Int.dvd_refl _), show min k 8 = k - m by omega]
              go_wp2_with (first | (go_at_call 10; refine (zzHex _ n c' zs _ (by omega) HR1.out HB.out).mono ?_; rintro e w3 ⟨rfl, rfl⟩; rw [HK.out, FIN.out]) | fail)
              go_ret
              exact ⟨ret_bool (by simp), (Below.refl _ w).grown HG.out (Nat.le_refl _) (fun k hk => by cases hk)⟩
      · have hlf : ¬ (k : Int) < (n : Int) := by omega
        by_cases h8 : 8 < k
        · have h8b : decide ((8 : Int) < (k : Int)) = true := decide_eq_true (by omega)
          go_wp2
          go_loop [5, 6, 7] (fun v p j => ∃ (m : Nat) (V P : Int), (k - 8) ≤ m ∧ m ≤ k ∧ j = .int .i64 ((m : Int) - 1) ∧ v = .int .u32 V ∧ p = .int .u32 P ∧ V = low zs k (k - m) % 4294967296 ∧ P = 16 ^ (k - m) % 4294967296) (fun _ _ j => (intOf j + 1).toNat)
          case atStart => exact ⟨k, 0, 1, by omega, Nat.le_refl _, by go_num, rfl, rfl, by rw [Nat.sub_self]; rfl, by rw [Nat.sub_self]; rfl⟩
          case round =>
            obtain ⟨m, V, P, hsm, hmk, rfl, rfl, rfl, hV, hP⟩ := hrel
            have HV := hid hV
            have HP := hid hP
            obtain ⟨V0, V1⟩ : 0 ≤ V ∧ V < 4294967296 := by omega
            obtain ⟨P0, P1⟩ : 0 ≤ P ∧ P < 4294967296 := by
              rw [hP]; exact ⟨Int.emod_nonneg _ (by decide), Int.emod_lt_of_pos _ (by decide)⟩
            clear hV hP
            by_cases hm : (k - 8) < m
            · obtain ⟨q, rfl⟩ : ∃ q, m = q + 1 := ⟨m - 1, by omega⟩
              have eq : (((q + 1 : Nat) : Int)) - 1 = (q : Int) := by omega
              rw [eq]
              obtain ⟨z, hz⟩ : ∃ z, z = zs.getD q 0 := ⟨_, rfl⟩
              have d1 := HC.out q (by omega)
              rw [← hz] at d1
              obtain ⟨z0, z1⟩ : 0 ≤ z ∧ z < 256 := by
                rw [hz, List.getD_eq_getElem?_getD, List.getElem?_eq_getElem (by rw [HR.out.1]; omega)]
                exact HB.out _ (List.getElem_mem _)
              obtain ⟨g0, g1⟩ : 0 ≤ hx z ∧ hx z < 16 := ⟨by rw [hz]; exact HALL.out q (by omega), hx_lt z⟩
              have HZ := hid hz
              clear hz
              have i0 : (0 : Int) ≤ (q : Int) := by omega
              have i1 : (q : Int) < (n : Int) := by omega
              have i2 : (((k : Int) - 8 : Int)) ≤ (q : Int) := by omega
              go_wp2_with (first | (go_at_call 9; refine (hexValue z _ z0 z1).mono ?_; rintro e w3 ⟨rfl, rfl⟩) | fail)
              go_round
              case rel =>
                refine ⟨q, _, _, by omega, by omega, by go_num, rfl, rfl, ?_, ?_⟩
                · rw [HV.out, HP.out, low_step zs k q (by omega), ← HZ.out]
                  exact vmod _ _ _
                · rw [HP.out, show k - q = (k - (q + 1)) + 1 by omega, Int.pow_succ]
                  exact pmod _
              case measure => simp [intOf] <;> omega
            · have hms : m = (k - 8) := by omega
              have i2 : ¬ ((k : Int) - 8 : Int) ≤ (m : Int) - 1 := by omega
              have FIN : Hid (IntKind.i32.wrap (val (zs.take k)) = IntKind.i32.wrap V) := by
                refine wrap_congr ?_
                rw [val_mod zs k (by rw [HR.out.1]; exact hk), HV.out, Int.emod_emod_of_dvd _ (Int.dvd_refl _), show min k 8 = k - m by omega]
              go_wp2_with (first | (go_at_call 10; refine (zzHex _ n c' zs _ (by omega) HR1.out HB.out).mono ?_; rintro e w3 ⟨rfl, rfl⟩; rw [HK.out, FIN.out]) | fail)
              go_ret
              exact ⟨ret_bool (by simp), (Below.refl _ w).grown HG.out (Nat.le_refl _) (fun k hk => by cases hk)⟩
        · have h8b : decide ((8 : Int) < (k : Int)) = false := decide_eq_false (by omega)
          go_wp2
          go_loop [5, 6, 7] (fun v p j => ∃ (m : Nat) (V P : Int), 0 ≤ m ∧ m ≤ k ∧ j = .int .i64 ((m : Int) - 1) ∧ v = .int .u32 V ∧ p = .int .u32 P ∧ V = low zs k (k - m) % 4294967296 ∧ P = 16 ^ (k - m) % 4294967296) (fun _ _ j => (intOf j + 1).toNat)
          case atStart => exact ⟨k, 0, 1, by omega, Nat.le_refl _, by go_num, rfl, rfl, by rw [Nat.sub_self]; rfl, by rw [Nat.sub_self]; rfl⟩
          case round =>
            obtain ⟨m, V, P, hsm, hmk, rfl, rfl, rfl, hV, hP⟩ := hrel
            have HV := hid hV
            have HP := hid hP
            obtain ⟨V0, V1⟩ : 0 ≤ V ∧ V < 4294967296 := by omega
            obtain ⟨P0, P1⟩ : 0 ≤ P ∧ P < 4294967296 := by
              rw [hP]; exact ⟨Int.emod_nonneg _ (by decide), Int.emod_lt_of_pos _ (by decide)⟩
            clear hV hP
            by_cases hm : 0 < m
            · obtain ⟨q, rfl⟩ : ∃ q, m = q + 1 := ⟨m - 1, by omega⟩
              have eq : (((q + 1 : Nat) : Int)) - 1 = (q : Int) := by omega
              rw [eq]
              obtain ⟨z, hz⟩ : ∃ z, z = zs.getD q 0 := ⟨_, rfl⟩
              have d1 := HC.out q (by omega)
              rw [← hz] at d1
              obtain ⟨z0, z1⟩ : 0 ≤ z ∧ z < 256 := by
                rw [hz, List.getD_eq_getElem?_getD, List.getElem?_eq_getElem (by rw [HR.out.1]; omega)]
                exact HB.out _ (List.getElem_mem _)
              obtain ⟨g0, g1⟩ : 0 ≤ hx z ∧ hx z < 16 := ⟨by rw [hz]; exact HALL.out q (by omega), hx_lt z⟩
              have HZ := hid hz
              clear hz
              have i0 : (0 : Int) ≤ (q : Int) := by omega
              have i1 : (q : Int) < (n : Int) := by omega
              have i2 : ((0 : Int)) ≤ (q : Int) := by omega
              go_wp2_with (first | (go_at_call 9; refine (hexValue z _ z0 z1).mono ?_; rintro e w3 ⟨rfl, rfl⟩) | fail)
              go_round
              case rel =>
                refine ⟨q, _, _, by omega, by omega, by go_num, rfl, rfl, ?_, ?_⟩
                · rw [HV.out, HP.out, low_step zs k q (by omega), ← HZ.out]
                  exact vmod _ _ _
                · rw [HP.out, show k - q = (k - (q + 1)) + 1 by omega, Int.pow_succ]
                  exact pmod _
              case measure => simp [intOf] <;> omega
            · have hms : m = 0 := by omega
              have i2 : ¬ (0 : Int) ≤ (m : Int) - 1 := by omega
              have FIN : Hid (IntKind.i32.wrap (val (zs.take k)) = IntKind.i32.wrap V) := by
                refine wrap_congr ?_
                rw [val_mod zs k (by rw [HR.out.1]; exact hk), HV.out, Int.emod_emod_of_dvd _ (Int.dvd_refl _), show min k 8 = k - m by omega]
              go_wp2_with (first | (go_at_call 10; refine (zzHex _ n c' zs _ (by omega) HR1.out HB.out).mono ?_; rintro e w3 ⟨rfl, rfl⟩; rw [HK.out, FIN.out]) | fail)
              go_ret
              exact ⟨ret_bool (by simp), (Below.refl _ w).grown HG.out (Nat.le_refl _) (fun k hk => by cases hk)⟩
end Go.Proofs.Qxb6603046a.Hx
