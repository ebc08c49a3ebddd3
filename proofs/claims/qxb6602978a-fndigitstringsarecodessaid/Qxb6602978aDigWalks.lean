import Derived.Test.Qxb6602978aRows
import Derived.WalkKit
import Derived.Below
import Derived.Laws.CopyOwn
import Derived.WalkSpells
namespace Go.Proofs.Qxb6602978a.Dig
open Go.RowKit

theorem ret_bool {a b : Bool} (h : a = b) : Ending.returned (.bool a) = .returned (.bool b) := by rw [h]

def isIn (l : List UInt8) (c : Int) : Bool := l.any fun b => (b.toNat : Int) == c

theorem isIn_snoc (l : List UInt8) (b : UInt8) (c : Int) : isIn (l ++ [b]) c = (isIn l c || ((b.toNat : Int) == c)) := by
  simp [isIn]

theorem take_snoc (s : ByteArray) (k : Nat) (h : k < s.size) : s.data.toList.take (k + 1) = s.data.toList.take k ++ [s[k]] := by
  rw [List.take_succ_eq_append_getElem (by simpa using h)]; rfl

theorem isIn_of (s : ByteArray) (k : Nat) (h : k < s.size) (c : Int) (hc : ((s[k].toNat : Int) == c) = true) : isIn s.data.toList c = true := by
  unfold isIn
  rw [List.any_eq_true]
  exact ⟨s[k], by simp [ByteArray.getElem_eq_getElem_data], hc⟩

set_option maxHeartbeats 400000 in
theorem inAlphabet_any (c : Int) (s : ByteArray) (w : World) (hs : s.size ≤ maxLen) :
    Calls Try.prog 14 #[.int .u8 c, .string s] w fun e w' => e = .returned (.bool (isIn s.data.toList c)) ∧ w' = w := by
  unfold maxLen at hs
  go_enter Try.func14, Try.ntmps14
  go_wp2
  go_loop [5] (fun i => ∃ k : Nat, k ≤ s.size ∧ i = .int .i64 k ∧ isIn (s.data.toList.take k) c = false) (fun i => s.size - (intOf i).toNat)
  case atStart => exact ⟨0, Nat.zero_le _, rfl, rfl⟩
  case round =>
    obtain ⟨k, hk, rfl, hno⟩ := hrel
    have HN : Hid (isIn (s.data.toList.take k) c = false) := hno
    clear hno
    by_cases hlt : k < s.size
    · by_cases hc : ((s[k].toNat : Int) == c) = true
      · have HR : Hid (isIn s.data.toList c = true) := isIn_of s k hlt c hc
        go_wp2
        go_ret
        exact ⟨ret_bool HR.out.symm, rfl⟩
      · have hc' : ((s[k].toNat : Int) == c) = false := by simpa using hc
        have HS : Hid (isIn (s.data.toList.take (k + 1)) c = false) := by
          show _ = _
          rw [take_snoc s k hlt, isIn_snoc, HN.out, hc']; rfl
        clear hc
        go_wp2
        go_round
        case rel => exact ⟨k + 1, by omega, by go_num, HS.out⟩
        case measure => simp [intOf]; omega
    · go_wp2
      go_ret
      have := HN.out
      rw [List.take_of_length_le (by simp; omega)] at this
      exact ⟨ret_bool this.symm, rfl⟩

theorem zz_any (a : Option Addr) (n c : Nat) (w : World) (hn : n ≤ maxLen) :
    Calls Try.prog 13 #[.slice a n c] w fun e w' => e = .returned (.bool (decide (n ≤ 1048576))) ∧ w' = w := by
  unfold maxLen at hn
  by_cases h : n ≤ 1048576
  · go_enter Try.func13, Try.ntmps13
    go_wp2
    go_ret
    exact ⟨ret_bool (by simpa using h), rfl⟩
  · go_enter Try.func13, Try.ntmps13
    go_wp2
    go_ret
    exact ⟨ret_bool (by simpa using h), rfl⟩

def digB (n : Int) : Bool := decide (48 ≤ n ∧ n ≤ 57)
def allB (zs : List Int) : Bool := zs.all digB
theorem allB_snoc (zs : List Int) (x : Int) : allB (zs ++ [x]) = (allB zs && digB x) := by simp [allB]

/-- A slice of bytes as a list of numbers. -/
def Rd (w : World) (a : Option Addr) (n : Nat) (zs : List Int) : Prop :=
  zs.length = n ∧ (0 < n → ∃ b off, a = some ⟨b, off, none⟩ ∧ ∀ i, i < n → w.cell? ⟨b, off + i, none⟩ = some (.int .u8 (zs.getD i 0)))

theorem take_snoc_int (zs : List Int) (k : Nat) (h : k < zs.length) : zs.take (k + 1) = zs.take k ++ [zs.getD k 0] := by
  rw [List.take_succ_eq_append_getElem h]; simp [h]

set_option maxHeartbeats 400000 in
theorem allDigits_any (a : Option Addr) (n c : Nat) (zs : List Int) (w : World) (hn : n ≤ maxLen) (hr : Rd w a n zs) :
    Calls Try.prog 26 #[.slice a n c] w fun e w' => e = .returned (.bool (decide (0 < n) && allB zs)) ∧ w' = w := by
  unfold maxLen at hn
  obtain ⟨hl, hr⟩ := hr
  by_cases h0 : n = 0
  · subst h0
    go_enter Try.func26, Try.ntmps26
    go_wp2
    go_ret
    exact ⟨ret_bool (by simp), rfl⟩
  · obtain ⟨b, off, rfl, hc⟩ := hr (by omega)
    have hne : ((n : Int) == 0) = false := by simp; omega
    go_enter Try.func26, Try.ntmps26
    go_wp2
    go_loop [10] (fun i => ∃ k : Nat, k ≤ n ∧ i = .int .i64 k ∧ allB (zs.take k) = true) (fun i => n - (intOf i).toNat)
    case atStart => exact ⟨0, Nat.zero_le _, rfl, rfl⟩
    case round =>
      obtain ⟨k, hk, rfl, hall⟩ := hrel
      have HN : Hid (allB (zs.take k) = true) := hall
      clear hall
      by_cases hlt : k < n
      · obtain ⟨x, hx⟩ : ∃ x, x = zs.getD k 0 := ⟨_, rfl⟩
        have hcell : w.cell? ⟨b, off + k, none⟩ = some (.int .u8 x) := by rw [hx]; exact hc k hlt
        have HX : Hid (x = zs.getD k 0) := hx
        clear hx hc
        have HS : Hid (allB (zs.take (k + 1)) = digB x) := by
          show _ = _
          rw [take_snoc_int zs k (by omega), allB_snoc, HN.out, HX.out]; rfl
        by_cases hd : 48 ≤ x ∧ x ≤ 57
        · obtain ⟨h1, h2⟩ := hd
          go_wp2
          go_round
          case rel => exact ⟨k + 1, by omega, by go_num, by rw [HS.out]; simp [digB, h1, h2]⟩
          case measure => simp [intOf]; omega
        · have HF : Hid (allB zs = false) := by
            show _ = _
            unfold allB
            rw [List.all_eq_false]
            refine ⟨x, ?_, ?_⟩
            · rw [HX.out, List.getD_eq_getElem?_getD, List.getElem?_eq_getElem (by omega)]; exact List.getElem_mem _
            · unfold digB; simp; omega
          rcases (show x < 48 ∨ (48 ≤ x ∧ 57 < x) by omega) with h | ⟨h1, h2⟩
          all_goals
            clear hd
            go_wp2
            go_ret
            exact ⟨ret_bool (by rw [HF.out]; simp), rfl⟩
      · go_wp2
        go_ret
        have := HN.out
        rw [List.take_of_length_le (by omega)] at this
        exact ⟨ret_bool (by rw [this]; simp; omega), rfl⟩


theorem Try.info5 : (Try.prog.info? 5).map (fun i => (i.zero, i.size, i.bytes)) = some (some (.int .u8 0), 1, 1) := by kernel_rfl

theorem clone_nil (w : World) : Calls Try.prog 11 #[.slice none 0 0] w fun e w' => e = .returned (.slice none 0 0) ∧ w' = w := by
  have hnl := fun w' => Lib.run_eql_slice_nil (P := Try.prog) w' 24 5 none 0 0 0 0 Try.underlying24
  go_enter Try.func11, Try.ntmps11
  go_wp2
  go_ret
  exact ⟨rfl, rfl⟩

theorem splice_whole {α : Type} (L cs : List α) (h : cs.length = L.length) : splice L 0 cs = cs := by
  simp [splice, h]

theorem made_row {w w1 : World} {e : TypeId} {n : Nat} {xs : List Value} (h : w1.ownsRow w.heap.size e 1 (.slice (some ⟨w.heap.size, 0, none⟩) n n) n xs) (hg : w.grownBy w1 none) :
    ∃ cur : List Value, cur.length = n ∧ Hid (w1.heap[w.heap.size]? = some (.cells cur.toArray e (0, 0))) ∧ Below w.heap.size w w1 := by
  obtain ⟨_, h2⟩ := h
  rcases h2 with ⟨h, _⟩ | ⟨g, cap, cur, hv, _, hh, _, _, hs, _⟩
  · simp at h
  · simp only [Value.slice.injEq, Option.some.injEq, Addr.mk.injEq, and_true, true_and] at hv
    obtain ⟨rfl, rfl⟩ := hv
    exact ⟨cur.toList, by simpa using hs, (by simpa using hh : _ = _), (Below.refl _ _).grown hg (Nat.le_refl _) (by intro k hk; cases hk)⟩

theorem src_of {w w1 : World} {x : Addr} {n : Nat} {zs : List Int} (hz : zs.length = n) (hc : ∀ i, i < n → w.cell? (x.add i) = some (.int .u8 (zs.getD i 0))) (hb1 : Below w.heap.size w w1)
    {cs : List Value} (hcs : cs = zs.map (Value.int .u8)) : ∀ j v, cs[j]? = some v → w1.cell? (x.add j) = some v := by
  subst hcs
  intro j v hj
  have hjl : j < zs.length := by
    have := (List.getElem?_eq_some_iff.1 hj).1
    simpa using this
  have hcj := hc j (by omega)
  have hlt := World.block_lt_of_cell? w _ hcj
  rw [hb1.cell hlt, hcj]
  simp [List.getElem?_eq_getElem hjl] at hj
  subst hj
  simp [List.getD, List.getElem?_eq_getElem hjl]

set_option maxHeartbeats 400000 in
theorem clone_some (x : Addr) (n c : Nat) (zs : List Int) (w : World) (hn : n ≤ 1048576) (hz : zs.length = n)
    (hc : ∀ i, i < n → w.cell? (x.add i) = some (.int .u8 (zs.getD i 0))) :
    Calls Try.prog 11 #[.slice (some x) n c] w fun e w' => e = .returned (.slice (some ⟨w.heap.size, 0, none⟩) n n) ∧
      w'.heap[w.heap.size]? = some (.cells (zs.map (Value.int .u8)).toArray 5 (0, 0)) ∧ Below w.heap.size w w' := by
  have hnl := fun w' => Lib.run_eql_slice_nil (P := Try.prog) w' 24 5 (some x) n c 0 0 Try.underlying24
  obtain ⟨i0, hi, hz0, hz1, hz2⟩ := info_parts Try.info5
  have hsz : (Try.prog.info? 5).map (·.size) = some 1 := by rw [hi]; simp [hz1]
  obtain ⟨cs, hcs⟩ : ∃ cs, cs = zs.map (Value.int .u8) := ⟨_, rfl⟩
  have hcl2 : cs.length = n := by rw [hcs]; simpa using hz
  have h1 : ∀ v ∈ cs, v.oneCell' = true := by rw [hcs]; exact ints_oneCell _ _
  have HCS : Hid (cs = zs.map (Value.int .u8)) := hcs
  have HL : Hid (cs.length = n) := hcl2
  have HC : Hid (∀ i, i < n → w.cell? (x.add i) = some (.int .u8 (zs.getD i 0))) := hc
  have HZ : Hid (zs.length = n) := hz
  clear hcs hc hcl2 hz
  go_enter Try.func11, Try.ntmps11
  go_wp2_with (first
    | (at_make; refine wpList_make_full _ rfl _ _ 24 rfl w.heap.size 5 i0 (.int .u8 0) 1 Try.underlying24 hi hz0 hz1 .i64 .i64 _ _ n rfl rfl rfl rfl (by rw [hz2]; omega) (by unfold maxLen; omega) (Nat.le_refl _) ?_; intro w1 hown1 hgrow1; obtain ⟨cur, hcl, HG, hb1⟩ := made_row hown1 hgrow1; clear hown1 hgrow1)
    | (refine wpList_copy_splice rfl (.tmp 9) (.tmp 10) 24 24 rfl 5 Try.underlying24 hsz _ _ _ _ _ _ rfl rfl w.heap.size 0 cur 5 HG.out cs (by rw [HL.out]; simp) (fun _ => ⟨rfl, x, rfl, src_of HZ.out HC.out hb1 HCS.out⟩) (by rw [HL.out]; omega) h1 w.heap.size w hb1 (Nat.le_refl _) ?_; intro w2 HG2 hB2))
  go_ret
  refine ⟨rfl, ?_, hB2⟩
  have := HG2.out
  rw [splice_whole _ _ (by rw [HL.out]; omega), HCS.out] at this
  exact this

/-! isCode -/
def alnB (n : Int) : Bool := decide ((48 ≤ n ∧ n ≤ 57) ∨ (65 ≤ n ∧ n ≤ 90) ∨ (97 ≤ n ∧ n ≤ 122))
def codeL (l : List UInt8) : Bool := l.all fun b => alnB (b.toNat : Int)
def codeB (s : ByteArray) : Bool := decide (1 ≤ s.size ∧ s.size ≤ 9) && codeL s.data.toList
theorem codeL_snoc (l : List UInt8) (b : UInt8) : codeL (l ++ [b]) = (codeL l && alnB (b.toNat : Int)) := by simp [codeL]

theorem bytes_of (s : ByteArray) (w : World) : ∃ cap w1, (convert 9 24 (.string s)).run Try.prog w = .ok (.slice (some ⟨w.heap.size, 0, none⟩) s.size cap) w1 ∧ Below w.heap.size w w1 ∧
    ∀ j (h : j < s.size), w1.cell? ⟨w.heap.size, j, none⟩ = some (.int .u8 (s[j].toNat : Int)) := by
  refine ⟨_, _, run_bytes_of_string (P := Try.prog) w 9 24 5 s Try.underlying9 Try.underlying24 Try.underlying5, (Below.refl _ _).drew.alloc (Nat.le_refl _) _, fun j hj => ?_⟩
  have := World.cell?_alloc_mark w.drew (bytesRow s (grownCap w s.size 0 5)) 5 ((bytesRow s (grownCap w s.size 0 5)).size, (bytesRow s (grownCap w s.size 0 5)).size + 1) j
  rw [bytesRow_at s _ j hj] at this
  exact this

set_option maxHeartbeats 1000000 in
theorem isCode_any (s : ByteArray) (w : World) (hs : s.size ≤ maxLen) :
    Calls Try.prog 25 #[.string s] w fun e w' => e = .returned (.bool (codeB s)) ∧ Below w.heap.size w w' := by
  unfold maxLen at hs
  by_cases h1 : s.size < 1
  · go_enter Try.func25, Try.ntmps25
    go_wp2
    go_ret
    exact ⟨ret_bool (by unfold codeB; rw [decide_eq_false (by omega)]; rfl), Below.refl _ _⟩
  by_cases h9 : 9 < s.size
  · go_enter Try.func25, Try.ntmps25
    go_wp2
    go_ret
    exact ⟨ret_bool (by unfold codeB; rw [decide_eq_false (by omega)]; rfl), Below.refl _ _⟩
  obtain ⟨cap, w1, hrun, hb, hcell⟩ := bytes_of s w
  have HB : Hid (codeB s = codeL s.data.toList) := by
    show _ = _
    unfold codeB; rw [decide_eq_true (by omega)]; rfl
  go_enter Try.func25, Try.ntmps25
  go_wp2
  clear hrun
  go_loop [16] (fun i => ∃ k : Nat, k ≤ s.size ∧ i = .int .i64 k ∧ codeL (s.data.toList.take k) = true) (fun i => s.size - (intOf i).toNat)
  case atStart => exact ⟨0, Nat.zero_le _, rfl, rfl⟩
  case round =>
    obtain ⟨k, hk, rfl, hall⟩ := hrel
    have HN : Hid (codeL (s.data.toList.take k) = true) := hall
    clear hall
    by_cases hlt : k < s.size
    · have hc := hcell k hlt
      have HM : Hid (s[k] ∈ s.data.toList) := (by simp [ByteArray.getElem_eq_getElem_data] : s[k] ∈ s.data.toList)
      have HS : Hid (codeL (s.data.toList.take (k + 1)) = alnB (s[k].toNat : Int)) := by
        show _ = _
        rw [take_snoc s k hlt, codeL_snoc, HN.out]; rfl
      clear hcell
      obtain ⟨x, hx⟩ : ∃ x : Int, x = (s[k].toNat : Int) := ⟨_, rfl⟩
      rw [← hx] at hc HS
      have HX : Hid (x = (s[k].toNat : Int)) := hx
      clear hx
      by_cases ha : (48 ≤ x ∧ x ≤ 57) ∨ (65 ≤ x ∧ x ≤ 90) ∨ (97 ≤ x ∧ x ≤ 122)
      · have HA : Hid (alnB x = true) := (decide_eq_true ha : _ = _)
        rcases ha with ⟨h1, h2⟩ | ⟨h1, h2⟩ | ⟨h1, h2⟩
        all_goals
          go_wp2
          go_round
          case rel => exact ⟨k + 1, by omega, by go_num, by rw [HS.out, HA.out]⟩
          case measure => simp [intOf]; omega
      · have HA : Hid (codeL s.data.toList = false) := by
          show _ = _
          unfold codeL
          rw [List.all_eq_false]
          exact ⟨s[k], HM.out, by rw [← HX.out]; unfold alnB; rw [decide_eq_false ha]; simp⟩
        rcases (show x < 48 ∨ (57 < x ∧ x < 65) ∨ (90 < x ∧ x < 97) ∨ 122 < x by omega) with h | h | h | h
        all_goals
          clear ha
          go_wp2
          all_goals first
            | (go_ret; exact ⟨ret_bool (by rw [HB.out, HA.out]), hb⟩)
            | (exfalso; rename_i hh; simp at hh; omega)
    · go_wp2
      go_ret
      have := HN.out
      rw [List.take_of_length_le (by simp; omega)] at this
      exact ⟨ret_bool (by rw [HB.out, this]), hb⟩

end Go.Proofs.Qxb6602978a.Dig
