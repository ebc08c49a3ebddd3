import Derived.Test.Qxb6602978aDigWalks
namespace Go.Proofs.Qxb6602978a.Dig
open Go.RowKit

def codeS : ByteArray := ⟨#[48, 49, 50, 51, 52, 53, 54, 55, 56, 57, 65, 66, 67, 68, 69, 70, 71, 72, 73, 74, 75, 76, 77, 78, 79, 80, 81, 82, 83, 84, 85, 86, 87, 88, 89, 90, 97, 98, 99, 100, 101, 102, 103, 104, 105, 106, 107, 108, 109, 110, 111, 112, 113, 114, 115, 116, 117, 118, 119, 120, 121, 122]⟩
def digS : ByteArray := ⟨#[48, 49, 50, 51, 52, 53, 54, 55, 56, 57]⟩

theorem code_fin : ∀ n : Fin 256, isIn codeS.data.toList ((n.val : Nat) : Int) = alnB ((n.val : Nat) : Int) := by decide +kernel
theorem dig_fin : ∀ n : Fin 256, isIn digS.data.toList ((n.val : Nat) : Int) = digB ((n.val : Nat) : Int) := by decide +kernel
theorem code_in (x : Int) (h0 : 0 ≤ x) (h1 : x ≤ 255) : isIn codeS.data.toList x = alnB x := by
  have := code_fin ⟨x.toNat, by omega⟩
  simpa [Int.toNat_of_nonneg h0] using this
theorem dig_in (x : Int) (h0 : 0 ≤ x) (h1 : x ≤ 255) : isIn digS.data.toList x = digB x := by
  have := dig_fin ⟨x.toNat, by omega⟩
  simpa [Int.toNat_of_nonneg h0] using this

def letB (x : Int) : Bool := alnB x && !digB x
def letL (zs : List Int) : Bool := zs.any letB
theorem letL_snoc (zs : List Int) (x : Int) : letL (zs ++ [x]) = (letL zs || letB x) := by simp [letL]

def Byt (zs : List Int) : Prop := ∀ x ∈ zs, 0 ≤ x ∧ x ≤ 255

theorem ofNat_toNat (x : Int) (h : 0 ≤ x ∧ x ≤ 255) : ((UInt8.ofNat x.toNat).toNat : Int) = x := by
  rw [UInt8.toNat_ofNat']; omega

theorem codeL_nums (zs : List Int) (h : Byt zs) : codeL (strOfNums zs).data.toList = zs.all alnB := by
  rw [strOfNums_data]
  unfold codeL
  rw [List.all_map]
  apply Bool.eq_iff_iff.2
  simp only [List.all_eq_true, Function.comp]
  constructor
  · intro H x hx; have := H x hx; rwa [ofNat_toNat x (h x hx)] at this
  · intro H x hx; rw [ofNat_toNat x (h x hx)]; exact H x hx

theorem plain (zs : List Int) (h : Byt zs) : (codeB (strOfNums zs) && !letL zs) = ((decide (0 < zs.length) && allB zs) && decide (zs.length ≤ 9)) := by
  unfold codeB
  rw [codeL_nums zs h, strOfNums_size]
  have key : (zs.all alnB && !letL zs) = allB zs := by
    unfold letL allB
    apply Bool.eq_iff_iff.2
    simp only [Bool.and_eq_true, List.all_eq_true, Bool.not_eq_true', List.any_eq_false, letB]
    constructor
    · intro ⟨H1, H2⟩ x hx
      have a := H1 x hx
      have b := H2 x hx
      rw [a] at b
      simpa using b
    · intro H
      refine ⟨fun x hx => ?_, fun x hx => ?_⟩
      · have := H x hx
        unfold digB at this; unfold alnB
        simp at this ⊢; omega
      · rw [H x hx]; simp
  rw [Bool.and_assoc, key]
  by_cases h1 : 1 ≤ zs.length <;> by_cases h2 : zs.length ≤ 9 <;> simp [h1, h2] <;> omega

theorem inA_yes (c : Int) (s : ByteArray) (w : World) (hs : s.size ≤ maxLen) (h : isIn s.data.toList c = true) :
    Calls Try.prog 14 #[.int .u8 c, .string s] w fun e w' => e = .returned (.bool true) ∧ w = w' :=
  (inAlphabet_any c s w hs).mono fun e w' ⟨he, hw⟩ => ⟨by rw [he, h], hw.symm⟩
theorem inA_no (c : Int) (s : ByteArray) (w : World) (hs : s.size ≤ maxLen) (h : isIn s.data.toList c = false) :
    Calls Try.prog 14 #[.int .u8 c, .string s] w fun e w' => e = .returned (.bool false) ∧ w = w' :=
  (inAlphabet_any c s w hs).mono fun e w' ⟨he, hw⟩ => ⟨by rw [he, h], hw.symm⟩

theorem zzIsCode (s : ByteArray) (w : World) (hs : s.size ≤ maxLen) :
    Calls Try.prog 9 #[.string s] w fun e w' => e = .returned (.bool (codeB s)) ∧ Below w.heap.size w w' := by
  go_enter Try.func9, Try.ntmps9
  go_wp2_with (go_at_call 25; refine (isCode_any s _ hs).mono ?_; rintro e w' ⟨rfl, hb⟩)
  go_ret
  exact ⟨rfl, hb⟩

theorem zzAllDigits (a : Option Addr) (n c : Nat) (zs : List Int) (w : World) (hn : n ≤ maxLen) (hr : Rd w a n zs) :
    Calls Try.prog 12 #[.slice a n c] w fun e w' => e = .returned (.bool (decide (0 < n) && allB zs)) ∧ w = w' := by
  go_enter Try.func12, Try.ntmps12
  go_wp2_with (go_at_call 26; refine (allDigits_any a n c zs _ hn hr).mono ?_; rintro e w' ⟨rfl, hw⟩)
  go_ret
  exact ⟨rfl, rfl⟩

theorem size_codeS : codeS.size ≤ maxLen := by decide +kernel
theorem size_digS : digS.size ≤ maxLen := by decide +kernel

theorem hid {p : Prop} (h : p) : Hid p := h
theorem letL_take (zs : List Int) (k : Nat) (h : k < zs.length) : letL (zs.take (k + 1)) = (letL (zs.take k) || letB (zs.getD k 0)) := by
  rw [take_snoc_int zs k h, letL_snoc]

theorem zzB (a : Option Addr) (n c : Nat) (w : World) (hn : n ≤ maxLen) :
    Calls Try.prog 13 #[.slice a n c] w fun e w' => e = .returned (.bool (decide (n ≤ 1048576))) ∧ w = w' :=
  (zz_any a n c w hn).mono fun _ _ ⟨he, hw⟩ => ⟨he, hw.symm⟩

theorem rd_of {w1 : World} {g n : Nat} {zs : List Int} (hz : zs.length = n) (hg : w1.heap[g]? = some (.cells (zs.map (Value.int .u8)).toArray 5 (0, 0))) :
    (∀ i, i < n → w1.cell? ⟨g, i, none⟩ = some (.int .u8 (zs.getD i 0))) := by
  intro i hi
  rw [cell_of_row w1 g i _ 5 (0, 0) hg]
  simp [List.getElem?_eq_getElem (show i < zs.length by omega)]

set_option maxHeartbeats 1000000 in
theorem law_some (x : Addr) (n c : Nat) (zs : List Int) (w : World) (hn : n ≤ maxLen) (hz : zs.length = n) (hby : Byt zs)
    (hc : ∀ i, i < n → w.cell? (x.add i) = some (.int .u8 (zs.getD i 0))) :
    Calls Try.prog 5 #[.slice (some x) n c] w fun e w' => e = .returned (.bool true) ∧ Below w.heap.size w w' := by
  by_cases hbig : 1048576 < n
  · have hd : decide (n ≤ 1048576) = false := decide_eq_false (by omega)
    go_enter Try.func5, Try.ntmps5
    go_wp2_with (go_at_call 13; refine (zzB _ n c _ hn).mono ?_; rintro e w' ⟨rfl, rfl⟩)
    go_ret
    exact ⟨rfl, Below.refl _ _⟩
  replace hbig : n ≤ 1048576 := by omega
  have hd : decide (n ≤ 1048576) = true := decide_eq_true hbig
  have HZ := hid hz
  have HC := hid hc
  clear hz hc
  go_enter Try.func5, Try.ntmps5
  go_wp2_with (first
    | (go_at_call 13; refine (zzB _ n c _ hn).mono ?_; rintro e w' ⟨rfl, rfl⟩)
    | (go_at_call 11; refine (clone_some x n c zs _ hbig HZ.out HC.out).mono ?_; rintro e w1 ⟨rfl, hg, hb⟩; have HG := hid hg; clear hg))
  clear hd HC
  have HCE := hid (rd_of HZ.out HG.out)
  go_loop [3, 4] (fun l i => ∃ k : Nat, k ≤ n ∧ i = .int .i64 k ∧ l = .bool (letL (zs.take k))) (fun _ i => n - (intOf i).toNat)
  case atStart => exact ⟨0, Nat.zero_le _, rfl, rfl⟩
  case round =>
    obtain ⟨k, hk, rfl, rfl⟩ := hrel
    by_cases hlt : k < n
    · obtain ⟨y, hy⟩ : ∃ y, y = zs.getD k 0 := ⟨_, rfl⟩
      have hcell : w1.cell? ⟨w.heap.size, k, none⟩ = some (.int .u8 y) := by rw [hy]; exact HCE.out k hlt
      have hyb : 0 ≤ y ∧ y ≤ 255 := by
        have hl : k < zs.length := by rw [HZ.out]; exact hlt
        rw [hy, List.getD_eq_getElem?_getD, List.getElem?_eq_getElem hl]; exact hby _ (List.getElem_mem _)
      have HS : Hid (letL (zs.take (k + 1)) = (letL (zs.take k) || letB y)) := by
        show _ = _
        rw [hy]; exact letL_take zs k (by rw [HZ.out]; exact hlt)
      clear hy
      have HA := hid (code_in y hyb.1 hyb.2)
      have HD := hid (dig_in y hyb.1 hyb.2)
      clear hyb
      by_cases ha : isIn codeS.data.toList y = true
      · by_cases hdg : isIn digS.data.toList y = true
        · have HL : Hid (letB y = false) := by show _ = _; unfold letB; rw [← HD.out, hdg]; simp
          have Ha := hid ha
          have Hd := hid hdg
          clear ha hdg
          go_wp2_with fail
          refine (inA_yes y codeS _ size_codeS Ha.out).mono ?_
          rintro e w' ⟨rfl, rfl⟩
          go_wp2_with fail
          refine (inA_yes y digS _ size_digS Hd.out).mono ?_
          rintro e w' ⟨rfl, rfl⟩
          go_wp2
          go_round
          case rel => exact ⟨k + 1, by omega, by go_num, by rw [HS.out, HL.out]; simp⟩
          case measure => simp [intOf]; omega
        · have HL : Hid (letB y = true) := by
            show _ = _
            unfold letB; rw [← HD.out, ← HA.out, ha, Bool.eq_false_iff.2 hdg]; rfl
          have Ha := hid ha
          have Hd := hid (Bool.eq_false_iff.2 hdg)
          clear ha hdg
          go_wp2_with fail
          refine (inA_yes y codeS _ size_codeS Ha.out).mono ?_
          rintro e w' ⟨rfl, rfl⟩
          go_wp2_with fail
          refine (inA_no y digS _ size_digS Hd.out).mono ?_
          rintro e w' ⟨rfl, rfl⟩
          go_wp2
          go_round
          case rel => exact ⟨k + 1, by omega, by go_num, by rw [HS.out, HL.out]; simp⟩
          case measure => simp [intOf]; omega
      · have HL : Hid (letB y = false) := by
          show _ = _
          unfold letB; rw [← HA.out, Bool.eq_false_iff.2 ha]; rfl
        have Ha := hid (Bool.eq_false_iff.2 ha)
        clear ha
        go_wp2_with fail
        refine (inA_no y codeS _ size_codeS Ha.out).mono ?_
        rintro e w' ⟨rfl, rfl⟩
        go_wp2
        go_round
        case rel => exact ⟨k + 1, by omega, by go_num, by rw [HS.out, HL.out]; simp⟩
        case measure => simp [intOf]; omega
    · have hkn : zs.take k = zs := List.take_of_length_le (by rw [HZ.out]; omega)
      rw [hkn]
      clear hkn
      obtain ⟨lt, hlet⟩ : ∃ lt, lt = letL zs := ⟨_, rfl⟩
      rw [← hlet]
      have HLT := hid hlet
      obtain ⟨S, hS⟩ : ∃ S, S = strOfNums zs := ⟨_, rfl⟩
      have hcv : (convert 24 9 (.slice (some ⟨w.heap.size, 0, none⟩) n n)).run Try.prog w1 = .ok (.string S) w1 := by
        rw [hS]
        exact run_convert_bytes_arg (P := Try.prog) w1 24 5 Try.underlying24 Try.underlying5 w.heap.size 0 n n zs HZ.out (fun i hi => by simpa using HCE.out i hi) 9 Try.underlying9
      have hSs : S.size ≤ maxLen := by rw [hS, strOfNums_size, HZ.out]; exact hn
      have HP := hid (plain zs hby)
      rw [← hlet, ← hS, HZ.out] at HP
      clear hlet hS
      have HH : Hid (w1.heap[w.heap.size]? = some (.cells (zs.map (Value.int .u8)).toArray 5 (0, 0))) := HG
      obtain ⟨cb, hcb⟩ : ∃ cb, cb = codeB S := ⟨_, rfl⟩
      obtain ⟨ab, hab⟩ : ∃ ab, ab = (decide (0 < n) && allB zs) := ⟨_, rfl⟩
      rw [← hcb, ← hab] at HP
      have HCB := hid hcb
      have HAB := hid hab
      clear hcb hab
      go_wp2_with fail
      refine (zzIsCode S _ hSs).mono ?_
      rintro e w2 ⟨rfl, hb2⟩
      rw [← HCB.out]
      have hrd : Rd w2 (some ⟨w.heap.size, 0, none⟩) n zs := by
        refine ⟨HZ.out, fun hp => ⟨w.heap.size, 0, rfl, fun i hi => ?_⟩⟩
        have hi' := HCE.out i hi
        rw [Nat.zero_add, hb2.cell (World.block_lt_of_cell? w1 _ hi'), hi']
      have hbb : Below w.heap.size w w2 := hb.trans (hb2.mono hb.size)
      clear hcv HCE hb hb2
      have HRD := hid hrd
      clear hrd
      by_cases h9 : n ≤ 9
      all_goals
        cases cb
        all_goals
          cases lt
          all_goals
            go_wp2_with fail
            refine (zzAllDigits (some ⟨w.heap.size, 0, none⟩) n n zs _ hn HRD.out).mono ?_
            rintro e w3 ⟨rfl, rfl⟩
            rw [← HAB.out]
            clear HAB HCB HRD HLT
            cases ab
            all_goals
              first
                | (exfalso; have := HP.out; simp [h9] at this; done)
                | (go_wp2; go_ret; first | exact ⟨rfl, hbb⟩ | exact ⟨ret_bool (by simp; omega), hbb⟩)

theorem law_nil (w : World) : Calls Try.prog 5 #[.slice none 0 0] w fun e w' => e = .returned (.bool true) ∧ Below w.heap.size w w' := by
  have hd : decide (0 ≤ 1048576) = true := rfl
  have hcv := run_convert_bytes_nil (P := Try.prog) w 24 5 Try.underlying24 Try.underlying5 0 0 9 Try.underlying9
  have hc0 : codeB ByteArray.empty = false := by decide +kernel
  have hrd : ∀ w2, Rd w2 none 0 [] := fun w2 => ⟨rfl, fun h => by omega⟩
  go_enter Try.func5, Try.ntmps5
  go_wp2_with (first
    | (go_at_call 13; refine (zzB none 0 0 _ (by decide)).mono ?_; rintro e w' ⟨rfl, rfl⟩)
    | (go_at_call 11; refine (clone_nil w).mono ?_; rintro e w1 ⟨rfl, hw⟩; subst hw))
  refine wp_loop_rounds 1 ?_
  rw [rounds_succ]
  go_wp2_with (first
    | (go_at_call 9; refine (zzIsCode ByteArray.empty _ (by decide)).mono ?_; rintro e w2 ⟨rfl, hb2⟩; rw [hc0])
    | (go_at_call 12; refine (zzAllDigits none 0 0 [] _ (by decide) (hrd _)).mono ?_; rintro e w3 ⟨rfl, rfl⟩))
  go_ret
  exact ⟨rfl, hb2⟩
end Go.Proofs.Qxb6602978a.Dig
