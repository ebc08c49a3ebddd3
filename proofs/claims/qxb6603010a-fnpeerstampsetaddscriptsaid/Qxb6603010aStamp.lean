import Derived.Test.Qxb6603010aStep
namespace Go.Proofs.Qxb6603010a.St
open Go.RowKit Go.Maps Mp
open Pr (hid ret_bool lt_of al1 run_mm)

theorem sta_start {w w1 w2 : World} {C n : Nat} (h1 : w1.ownsRow 0 35 1 (.slice (some ⟨w.heap.size, 0, none⟩) 0 C) 0 []) (g1 : w.grownBy w1 none)
    (h2 : w2.ownsRow 0 35 1 (.slice (some ⟨(w1.alloc (.map #[] 0)).heap.size, 0, none⟩) 0 n) 0 []) (g2 : (w1.alloc (.map #[] 0)).grownBy w2 none) :
    Sta w.heap.size w w2 w.heap.size w1.heap.size (w1.heap.size + 1) C n [] [] [] none := by
  have f1 : Few w1 w.heap.size 0 C [] := h1
  have e : (w1.alloc (.map #[] 0)).heap.size = w1.heap.size + 1 := by simp
  rw [e] at h2
  have l1 := f1.lt
  have gg : w1.grownBy w2 none := (World.grownBy_alloc w1 _ none).trans g2
  have f1' := f1.kept gg (by simp)
  refine ⟨by simpa using f1', ?_, h2, fun _ => rfl, fun h => by simp at h, (Below.refl _ w).grown (g1.trans gg) (Nat.le_refl _) (fun k hk => by cases hk), Nat.le_refl _, by omega, by omega, by omega⟩
  have hm := made w1 Try.prog 35
  have hm2 := hm.block (g2.block _ (by simp) (by simp))
  exact hm2.congr fun kl _ => setf_nil kl

set_option maxRecDepth 100000 in
set_option maxHeartbeats 8000000 in
theorem law (C : Nat) (n c : Nat) (b off : Nat) (zs : List Int) (w : World) (hC : C ≤ 65536) (hn : n ≤ 4096) (hz : zs.length = n) (hu : ∀ y ∈ zs, U y)
    (hcell : ∀ i, i < n → w.cell? ⟨b, off + i, none⟩ = some (.int .u64 (zs.getD i 0))) :
    Calls Try.prog 5 #[.int .i64 (C : Int), .slice (some ⟨b, off, none⟩) n c] w fun e w' => e = .returned (.bool true) ∧ Below w.heap.size w w' := by
  have qe := fun (W : World) (r : Option Nat) => run_eql_map_nil (P := Try.prog) W 34 35 4 r Try.underlying34
  have qn := fun (W : World) (r : Option Nat) => run_neq_map_nil (P := Try.prog) W 34 35 4 r Try.underlying34
  have hmm := fun W => run_mm (P := Try.prog) Try.underlying34 .i64 (n : Int) W
  obtain ⟨i0, hi, hz0, hz1, hz2⟩ := info_parts Try.info35
  have HZ := hid hz
  have HU := hid hu
  have HC := hid hcell
  clear hz hu hcell
  have hd : decide (n ≤ 1048576) = true := decide_eq_true (by omega)
  go_enter Try.func5, Try.ntmps5
  go_wp2_with (first
    | (go_at_call 10; refine (zz10 _ _ n c _ (by unfold maxLen; omega)).mono ?_; rintro e w0 ⟨rfl, rfl⟩)
    | (at_make; refine wpList_make_own _ rfl _ (.tmp 29) 32 rfl 0 35 i0 _ 1 Try.underlying32 hi hz0 hz1 .i64 .i64 _ C rfl rfl rfl (by rw [hz2]; omega) (by unfold maxLen; omega) (Nat.zero_le _) ?_; intro w1 hown hgr; have HF1 := hid hown; have HG1 := hid hgr; clear hown hgr)
    | (at_make; refine wpList_make_own _ rfl _ (.tmp 35) 32 rfl 0 35 i0 _ 1 Try.underlying32 hi hz0 hz1 .i64 .i64 _ n rfl rfl rfl (by rw [hz2]; omega) (by unfold maxLen; omega) (Nat.zero_le _) ?_; intro w2 hown hgr; have HF2 := hid hown; have HG2 := hid hgr; clear hown hgr)
    | fail)
  have HS0 := hid (sta_start HF1.out HG1.out HF2.out HG2.out)
  clear HF1 HF2 HG1 HG2
  obtain ⟨F, hF⟩ : ∃ F, F = w.heap.size := ⟨_, rfl⟩
  obtain ⟨S, hS⟩ : ∃ S, S = w1.heap.size := ⟨_, rfl⟩
  rw [← hF, ← hS] at HS0 ⊢
  obtain ⟨O, hO⟩ : ∃ O, O = S + 1 := ⟨_, rfl⟩
  rw [← hO] at HS0 ⊢
  have HF := hid hF
  clear hF hS hO
  go_loopw [5, 6, 8, 9] (fun f m q i wv => ∃ (k : Nat) (o : List Int) (r : Option Nat), k ≤ n ∧ i = .int .i64 (k : Int) ∧ o = ord (zs.take k) ∧ f = .slice (some ⟨F, 0, none⟩) (min o.length C) C ∧ m = .map r ∧ q = .slice (some ⟨O, 0, none⟩) o.length n ∧ Sta F w wv F S O C n o o o r) (fun _ _ _ i _ => n - (intOf i).toNat)
  case atStart => exact ⟨0, [], none, Nat.zero_le _, rfl, by simp [ord], by simp, rfl, by simp, HS0.out⟩
  case round =>
    obtain ⟨i, o, r, hin, rfl, hoi, rfl, rfl, rfl, hsta⟩ := hrel
    obtain ⟨wa, hwa⟩ : ∃ wa, wa = wr := ⟨_, rfl⟩
    subst hwa
    have HSR := hid hsta
    have HOR := hid hoi
    clear hsta hoi HS0
    by_cases hlt : i < n
    · obtain ⟨x, hxd⟩ : ∃ x, x = zs.getD i 0 := ⟨_, rfl⟩
      have c1 : wa.cell? ⟨b, off + i, none⟩ = some (.int .u64 x) := by rw [hxd]; exact HSR.out.in1 HF.out (HC.out i hlt)
      have HP := hid (ord_props zs i (by rw [HZ.out]; omega))
      rw [← HOR.out] at HP
      have HUX : Hid (U x) := by rw [hxd]; exact HU.out _ (getD_mem (by rw [HZ.out]; exact hlt))
      have HOS : Hid (ord (zs.take (i + 1)) = if x ∈ o then o else o ++ [x]) := by
        rw [take_snoc_int zs i (by rw [HZ.out]; exact hlt), ord_snoc, ← HOR.out, hxd]; exact rfl
      have HUO : Hid (∀ y ∈ o, U y) := fun y hy => HU.out y (HP.out.2.2 y hy)
      have hol : o.length ≤ 4096 := by have := HP.out.2.1; omega
      clear hxd
      have j0 : (0 : Int) ≤ (i : Int) := by omega
      have j1 : (i : Int) < (n : Int) := by omega
      by_cases hx : x ∈ o
      · have HX := hid hx
        clear hx
        have HOI : Hid (o = ord (zs.take (i + 1))) := by rw [HOS.out, if_pos HX.out]; exact rfl
        clear HOS HOR
        have HUN := HUO
        by_cases hcl : o.length ≤ C
        · have hr := HSR.out.lo hcl
          subst hr
          have hmin : min o.length C = o.length := by omega
          have HFEW := hid (step_old HSR.out x hC HX.out HUX.out)
          rw [hmin] at HFEW ⊢
          go_wp2_with (first
            | (go_at_call 11; refine HFEW.out.mono ?_; rintro e w3 ⟨rfl, hs3⟩; have HS := hid hs3; clear hs3; have hls : (Instr.lookup 34 (.map (some S)) (.int .u64 x) false).run Try.prog w3 = .ok (.bool true) w3 := by rw [HS.out.lookSeen x HUX.out]; simp [HX.out])
            | (go_at_call 12; refine (sameU64 F o.length C O n o _ (by have := HS.out.few; rw [hmin, List.take_of_length_le hcl] at this; exact this) HS.out.ord (by omega)).mono ?_; rintro e w4 ⟨rfl, d, rfl⟩)
            | fail)
          go_roundw
          case rel => exact ⟨i + 1, o, none, by omega, by go_num, HOI.out, by rw [hmin], rfl, rfl, HS.out.drewN d⟩
          case measure => simp [intOf]; omega
        · obtain ⟨M, hr, hmM, _, _⟩ := HSR.out.hi (by omega)
          clear hmM
          subst hr
          have hmin : min o.length C = C := by omega
          have HFEW := hid (step_old HSR.out x hC HX.out HUX.out)
          rw [hmin] at HFEW ⊢
          go_wp2_with (first
            | (go_at_call 11; refine HFEW.out.mono ?_; rintro e w3 ⟨rfl, hs3⟩; have HS := hid hs3; clear hs3; have hls : (Instr.lookup 34 (.map (some S)) (.int .u64 x) false).run Try.prog w3 = .ok (.bool true) w3 := (by rw [HS.out.lookSeen x HUX.out]; simp [HX.out]); have hlm := fun ty => HS.out.lenMany (by omega) ty)
            | fail)
          go_loop [12] (fun v => ∃ q : Nat, q ≤ o.length ∧ v = .int .i64 (q : Int)) (fun v => o.length - (intOf v).toNat)
          case atStart => exact ⟨0, Nat.zero_le _, rfl⟩
          case round =>
            obtain ⟨q, hq, rfl⟩ := hrel
            by_cases hql : q < o.length
            · have co := HS.out.ordCell hql
              have hlk := HS.out.lookMany (by omega) (HUN.out _ (getD_mem hql)) (getD_mem hql)
              generalize o.getD q 0 = y at co hlk
              have k0 : (0 : Int) ≤ (q : Int) := by omega
              have k1 : (q : Int) < (o.length : Int) := by omega
              go_wp2
              go_round
              case rel => exact ⟨q + 1, by omega, by go_num⟩
              case measure => simp [intOf]; omega
            · go_wp2
              go_loopw [13] (fun v wv => ∃ (t d : Nat), t ≤ C ∧ v = .int .i64 (t : Int) ∧ wv = w3.drewN d) (fun v _ => C - (intOf v).toNat)
              case atStart => exact ⟨0, 0, Nat.zero_le _, rfl, rfl⟩
              case round =>
                obtain ⟨t, d, ht, rfl, rfl⟩ := hrel
                by_cases htl : t < C
                · have cf := HS.out.fewCell htl (by omega)
                  have co := HS.out.ordCell (j := t) (by omega)
                  generalize o.getD t 0 = y at cf co
                  have k0 : (0 : Int) ≤ (t : Int) := by omega
                  have k1 : (t : Int) < (C : Int) := by omega
                  have k2 : (t : Int) < (o.length : Int) := by omega
                  go_wp2
                  go_quiet (fail)
                  go_wp2
                  go_roundw
                  case rel => exact ⟨t + 1, d + nq, by omega, by go_num, rfl⟩
                  case measure => simp [intOf]; omega
                · go_wp2
                  go_roundw
                  case rel => exact ⟨i + 1, o, some M, by omega, by go_num, HOI.out, by rw [hmin], rfl, rfl, HS.out.drewN d⟩
                  case measure => simp [intOf]; omega
      · have HX := hid hx
        clear hx
        obtain ⟨o1, ho1⟩ : ∃ o1, o1 = o ++ [x] := ⟨_, rfl⟩
        have HO1 := hid ho1
        clear ho1
        have HOI : Hid (o1 = ord (zs.take (i + 1))) := by rw [HOS.out, if_neg HX.out, HO1.out]; exact rfl
        have HL : Hid (o1.length = o.length + 1) := by rw [HO1.out]; simp [Hid]
        have HUN : Hid (∀ y ∈ o1, U y) := by
          intro y hy
          rw [HO1.out] at hy
          rcases List.mem_append.1 hy with h | h
          · exact HUO.out y h
          · simp at h
            rw [h]; exact HUX.out
        have HFEW := hid (step_new HSR.out x hC (by omega) HX.out HUX.out HP.out.1 HUO.out)
        have hon : o.length < n := by have := HP.out.2.1; omega
        clear HOS HOR
        by_cases hcl : o.length + 1 ≤ C
        · have hr := HSR.out.lo (by omega)
          subst hr
          have hmin : min (o.length + 1) C = o.length + 1 := by omega
          have hmin0 : min o.length C = o.length := by omega
          have hmin1 : min (o ++ [x]).length C = o.length + 1 := by simp; omega
          have hmin2 : min o1.length C = o.length + 1 := by rw [HL.out, hmin]
          rw [hmin1, hmin0] at HFEW
          rw [hmin0]
          clear hmin1
          go_wp2_with (first
            | (go_at_call 11; refine HFEW.out.mono ?_; rintro e w3 ⟨r', rfl, hs3⟩; have hr' := hs3.lo (by simp; omega); subst hr'; obtain ⟨w4, hst, hs4⟩ := hs3.addSeen x HUX.out HX.out (by omega); have HS := hid hs3; have HS4 := hid hs4; clear hs3 hs4; have hls : (Instr.lookup 34 (.map (some S)) (.int .u64 x) false).run Try.prog w3 = .ok (.bool false) w3 := (by rw [HS.out.lookSeen x HUX.out]; simp [HX.out]))
            | (at_builtin; refine wpList_append_fits _ rfl _ _ 32 rfl 0 35 i0 1 Try.underlying32 hi hz1 O o.length n (o.map (Value.int .u64)) rfl (World.ownsRow.alloc HS4.out.ord _) ⟨w4.heap.size, 0, none⟩ 1 1 [.int .u64 x] rfl rfl (cell_one_new _ _ _) (ints_oneCell .u64 [x]) (by omega) ?_; intro w5 hown5 hgr5; have HS5' := hid (HS4.out.addOrd x (gt (World.grownBy_alloc _ _ none) hgr5) (by unfold Few; simpa using hown5)); have HS5 : Hid (Sta F w w5 F S O C n o1 o1 o1 none) := (by rw [HO1.out]; exact HS5'); clear hown5 hgr5 HS5')
            | (go_at_call 12; refine (sameU64 F (o.length + 1) C O n o1 _ (by have := HS5.out.few; rw [hmin2, List.take_of_length_le (by rw [HL.out]; exact hcl)] at this; exact this) (by have := HS5.out.ord; rw [HL.out] at this; exact this) (by omega)).mono ?_; rintro e w6 ⟨rfl, d, rfl⟩)
            | fail)
          go_roundw
          case rel => exact ⟨i + 1, o1, none, by omega, by go_num, HOI.out, by rw [hmin2], rfl, by rw [HL.out], HS5.out.drewN d⟩
          case measure => simp [intOf]; omega
        · have hmin : min (o.length + 1) C = C := by omega
          have hmin0 : Hid (min (o ++ [x]).length C = C) := by show min (o ++ [x]).length C = C; simp; omega
          rw [hmin0.out] at HFEW
          go_wp2_with (first
            | (go_at_call 11; refine HFEW.out.mono ?_; rintro e w3 ⟨r', rfl, hs3⟩; obtain ⟨M, hr', hmM, _, _⟩ := hs3.hi (by simp; omega); clear hmM; subst hr'; obtain ⟨w4, hst, hs4⟩ := hs3.addSeen x HUX.out HX.out (by omega); have HS := hid hs3; have HS4 := hid hs4; clear hs3 hs4; have hls : (Instr.lookup 34 (.map (some S)) (.int .u64 x) false).run Try.prog w3 = .ok (.bool false) w3 := (by rw [HS.out.lookSeen x HUX.out]; simp [HX.out]))
            | (at_builtin; refine wpList_append_fits _ rfl _ _ 32 rfl 0 35 i0 1 Try.underlying32 hi hz1 O o.length n (o.map (Value.int .u64)) rfl (World.ownsRow.alloc HS4.out.ord _) ⟨w4.heap.size, 0, none⟩ 1 1 [.int .u64 x] rfl rfl (cell_one_new _ _ _) (ints_oneCell .u64 [x]) (by omega) ?_; intro w5 hown5 hgr5; have HS5' := hid (HS4.out.addOrd x (gt (World.grownBy_alloc _ _ none) hgr5) (by unfold Few; simpa using hown5)); have HS5 : Hid (Sta F w w5 F S O C n o1 o1 o1 (some M)) := (by rw [HO1.out]; exact HS5'); have hlm : ∀ ty, (Builtin.len_ #[34] ty #[.map (some M)]).run Try.prog w5 = .ok (.int .i64 ((o.length + 1 : Nat) : Int)) w5 := (by intro ty; have := HS5.out.lenMany (by rw [HL.out]; omega) ty; rw [HL.out] at this; exact this); clear hown5 hgr5 HS5')
            | fail)
          go_loop [12] (fun v => ∃ q : Nat, q ≤ (o.length + 1) ∧ v = .int .i64 (q : Int)) (fun v => (o.length + 1) - (intOf v).toNat)
          case atStart => exact ⟨0, Nat.zero_le _, rfl⟩
          case round =>
            obtain ⟨q, hq, rfl⟩ := hrel
            by_cases hql : q < (o.length + 1)
            · have co := HS5.out.ordCell (j := q) (by rw [HL.out]; exact hql)
              have hlk := HS5.out.lookMany (by rw [HL.out]; omega) (HUN.out _ (getD_mem (by rw [HL.out]; exact hql))) (getD_mem (by rw [HL.out]; exact hql))
              generalize o1.getD q 0 = y at co hlk
              have k0 : (0 : Int) ≤ (q : Int) := by omega
              have k1 : (q : Int) < ((o.length + 1 : Nat) : Int) := by omega
              go_wp2
              go_round
              case rel => exact ⟨q + 1, by omega, by go_num⟩
              case measure => simp [intOf]; omega
            · go_wp2
              go_loopw [13] (fun v wv => ∃ (t d : Nat), t ≤ C ∧ v = .int .i64 (t : Int) ∧ wv = w5.drewN d) (fun v _ => C - (intOf v).toNat)
              case atStart => exact ⟨0, 0, Nat.zero_le _, rfl, rfl⟩
              case round =>
                obtain ⟨t, d, ht, rfl, rfl⟩ := hrel
                by_cases htl : t < C
                · have cf := HS5.out.fewCell htl (by rw [HL.out]; omega)
                  have co := HS5.out.ordCell (j := t) (by rw [HL.out]; omega)
                  generalize o1.getD t 0 = y at cf co
                  have k0 : (0 : Int) ≤ (t : Int) := by omega
                  have k1 : (t : Int) < (C : Int) := by omega
                  have k2 : (t : Int) < ((o.length + 1 : Nat) : Int) := by omega
                  go_wp2
                  go_quiet (fail)
                  go_wp2
                  go_roundw
                  case rel => exact ⟨t + 1, d + nq, by omega, by go_num, rfl⟩
                  case measure => simp [intOf]; omega
                · go_wp2
                  go_roundw
                  case rel => exact ⟨i + 1, o1, some M, by omega, by go_num, HOI.out, by rw [HL.out, hmin], rfl, by rw [HL.out], HS5.out.drewN d⟩
                  case measure => simp [intOf]; omega
    · have hlf : ¬ (i : Int) < (n : Int) := by omega
      go_wp2
      go_ret
      have hb := HSR.out.b
      rw [HF.out] at hb
      exact ⟨rfl, hb⟩
end Go.Proofs.Qxb6603010a.St
