import Derived.Test.Qxb6603046aFmtBase
namespace Go.Proofs.Qxb6603046a.Hx
open Go.RowKit

/-- the array of digits, t of them written -/
structure Dg (w W : World) (L : Nat) (v : Int) (up : Bool) (a' : Option Addr) (n : Nat) (zs : List Int) (t : Nat) (g : Nat → Int) : Prop where
  rw : Rw W L 8 30 g
  gr : w.grownBy W none
  hL : w.heap.size ≤ L
  dig : ∀ j, j < t → g (7 - j) = hc (v / 16 ^ j % 16) up
  rd : Rd W a' n zs
  ne : 0 < n → ∀ x, a' = some x → x.block ≠ L
theorem rd_block {W W' : World} {a : Option Addr} {n : Nat} {zs : List Int} (h : Rd W a n zs) (hb : 0 < n → ∀ x, a = some x → W'.heap[x.block]? = W.heap[x.block]?) : Rd W' a n zs := by
  obtain ⟨h1, h2, h3⟩ := h
  refine ⟨h1, h2, fun hn => ?_⟩
  obtain ⟨b, off, e, hc⟩ := h3 hn
  refine ⟨b, off, e, fun i hi => ?_⟩
  have c0 := hc i hi
  have e := hb hn _ e
  simp only [World.cell?] at c0 ⊢
  rw [e]
  exact c0
theorem dg_start {w w1 : World} {v : Int} {up : Bool} {a' : Option Addr} {n : Nat} {zs : List Int} (hg : w.grownBy w1 none) (hr : Rd w1 a' n zs) :
    Dg w (w1.alloc (.cells #[.int .u8 0, .int .u8 0, .int .u8 0, .int .u8 0, .int .u8 0, .int .u8 0, .int .u8 0, .int .u8 0] 30)) w1.heap.size v up a' n zs 0 (fun _ => 0) where
  rw := by
    refine ⟨_, heap_alloc_new w1 _, fun j hj => ?_⟩
    match j, hj with
    | 0, _ => rfl
    | 1, _ => rfl
    | 2, _ => rfl
    | 3, _ => rfl
    | 4, _ => rfl
    | 5, _ => rfl
    | 6, _ => rfl
    | 7, _ => rfl
  gr := hg.trans (World.grownBy_alloc w1 _ none)
  hL := hg.size
  dig := fun j hj => absurd hj (Nat.not_lt_zero _)
  rd := hr.grown (World.grownBy_alloc w1 _ none)
  ne := fun hn x hx => by
    obtain ⟨b, off, e, hc⟩ := hr.2.2 hn
    rw [hx] at e
    cases e
    have := World.block_lt_of_cell? w1 _ (hc 0 hn)
    simp only at this ⊢
    omega
theorem Dg.step {w W : World} {L : Nat} {v : Int} {up : Bool} {a' : Option Addr} {n : Nat} {zs : List Int} {t : Nat} {g : Nat → Int} (h : Dg w W L v up a' n zs t g) {u : Nat} (hu : u = 7 - t) (ht : t < 8) :
    Dg w (W.setCell ⟨L, u, none⟩ (.int .u8 (hc (v / 16 ^ t % 16) up))) L v up a' n zs (t + 1) (fun j => if j = u then hc (v / 16 ^ t % 16) up else g j) where
  rw := h.rw.set u _ (by simp) (fun j _ hj => by simp [hj])
  gr := gset h.gr h.hL _
  hL := h.hL
  dig := fun j hj => by
    by_cases e : j = t
    · rw [e, if_pos hu.symm]
    · rw [if_neg (by omega)]; exact h.dig j (by omega)
  rd := rd_block h.rd (fun hn x hx => Below.heap_setCell _ _ _ _ (h.ne hn x hx))
  ne := h.ne

theorem Dg.app {w W W' : World} {L : Nat} {v : Int} {up : Bool} {a' : Option Addr} {n : Nat} {zs : List Int} {t F : Nat} {g : Nat → Int} (h : Dg w W L v up a' n zs t g) (hg : W.grownBy W' (some F)) (hF : w.heap.size ≤ F) (hFL : F ≠ L)
    (hFa : 0 < n → ∀ x, a' = some x → x.block ≠ F) : Dg w W' L v up a' n zs t g where
  rw := h.rw.block (hg.block L h.rw.lt (by simpa using hFL.symm))
  gr := ⟨hg.os.trans h.gr.os, hg.tape.trans h.gr.tape, hg.output.trans h.gr.output, Nat.le_trans h.gr.size hg.size, fun k hk _ => (hg.block k (Nat.lt_of_lt_of_le hk h.gr.size) (by simp; omega)).trans (h.gr.block k hk (by simp))⟩
  hL := h.hL
  dig := h.dig
  rd := rd_block h.rd (fun hn x hx => by
    obtain ⟨b, off, e, hc⟩ := h.rd.2.2 hn
    have hl := World.block_lt_of_cell? W _ (hc 0 hn)
    rw [hx] at e
    cases e
    exact hg.block _ hl (by have := hFa hn _ hx; simpa using this))
  ne := h.ne

/-- the array and the growing row -/
structure Bd (w W : World) (L : Nat) (v : Int) (up : Bool) (a' : Option Addr) (n : Nat) (zs : List Int) (t : Nat) (g : Nat → Int) (F C k : Nat) (l : List Int) : Prop where
  dg : Dg w W L v up a' n zs t g
  buf : Buf W F k C l
  hF : w.heap.size ≤ F
  hFL : F ≠ L
  hFa : 0 < n → ∀ x, a' = some x → x.block ≠ F
variable {w W W' : World} {L : Nat} {v : Int} {up : Bool} {a' : Option Addr} {n : Nat} {zs : List Int} {t F C k : Nat} {g : Nat → Int} {l : List Int}
theorem Bd.app (h : Bd w W L v up a' n zs t g F C k l) {o : Obj} (hg : (W.alloc o).grownBy W' (some F)) {x : Int} (hb : W'.ownsRow 0 5 1 (.slice (some ⟨F, 0, none⟩) (k + 1) C) (k + 1) (l.map (Value.int .u8) ++ [.int .u8 x])) : Bd w W' L v up a' n zs t g F C (k + 1) (l ++ [x]) where
  dg := h.dg.app (gt (World.grownBy_alloc _ _ none) hg) h.hF h.hFL h.hFa
  buf := by unfold Buf; simpa using hb
  hF := h.hF
  hFL := h.hFL
  hFa := h.hFa
theorem bd_start {w2 : World} (h : Dg w W L v up a' n zs t g) (hb : w2.ownsRow 0 5 1 (.slice (some ⟨W.heap.size, 0, none⟩) 0 C) 0 []) (hg : W.grownBy w2 none) : Bd w w2 L v up a' n zs t g W.heap.size C 0 [] := by
  have hlL := h.rw.lt
  refine ⟨⟨h.rw.block (hg.block L hlL (by simp)), h.gr.trans hg, h.hL, h.dig, h.rd.grown hg, h.ne⟩, hb, h.gr.size, by omega, fun hn x hx => ?_⟩
  obtain ⟨b, off, e, hc⟩ := h.rd.2.2 hn
  have hl := World.block_lt_of_cell? W _ (hc 0 hn)
  rw [hx] at e
  cases e
  simp only at hl ⊢
  omega
theorem Bd.below (h : Bd w W L v up a' n zs t g F C k l) : Below w.heap.size w W := (Below.refl _ w).grown h.dg.gr (Nat.le_refl _) (fun k hk => by cases hk)
theorem Bd.digit (h : Bd w W L v up a' n zs (t + 1) g F C k l) {m q : Nat} (hm : m + t = 7 + q) (hq : q ≤ t) : W.cell? ⟨L, m, none⟩ = some (.int .u8 (hc (v / 16 ^ (t + 1 - 1 - q) % 16) up)) := by
  rw [h.dg.rw.cell (by omega)]
  have := h.dg.dig (t - q) (by omega)
  rw [show 7 - (t - q) = m by omega] at this
  rw [this, show t + 1 - 1 - q = t - q by omega]

theorem fmt_fin (v : Int) (up : Bool) (d Z : Nat) (zs : List Int) (h0 : v / 16 ^ d = 0) (hz : ∀ y, zs.head? = some y → hx y < 0) :
    run (List.replicate Z 48 ++ ds v up d d ++ zs) = Z + d ∧ val ((List.replicate Z 48 ++ ds v up d d ++ zs).take (Z + d)) = v := by
  have e : (List.replicate Z 48 ++ ds v up d d).length = Z + d := by simp [ds_len]
  constructor
  · rw [run_append _ _ (fun y hy => ?_) hz, e]
    rcases List.mem_append.1 hy with h | h
    · rw [(List.mem_replicate.1 h).2]; decide
    · exact (ds_byte v up d d y h).2
  · rw [List.take_append_of_le_length (by omega), List.take_of_length_le (by omega), val_fmt v up d Z h0]
theorem fmt_bytes (v : Int) (up : Bool) (d Z : Nat) (zs : List Int) (hb : ∀ y ∈ zs, 0 ≤ y ∧ y < 256) : ∀ y ∈ List.replicate Z 48 ++ ds v up d d ++ zs, 0 ≤ y ∧ y < 256 := by
  intro y hy
  rcases List.mem_append.1 hy with h | h
  · rcases List.mem_append.1 h with h | h
    · rw [(List.mem_replicate.1 h).2]; decide
    · exact (ds_byte v up d d y h).1
  · exact hb y h
theorem div_bounds (v : Int) (t : Nat) (v0 : 0 ≤ v) (v1 : v < 4294967296) : 0 ≤ v / 16 ^ t ∧ v / 16 ^ t < 4294967296 := by
  have hp : (0 : Int) < 16 ^ t := Int.pow_pos (by decide)
  refine ⟨Int.ediv_nonneg v0 (Int.le_of_lt hp), ?_⟩
  have := Int.ediv_le_self (16 ^ t) v0
  omega
theorem div_succ (v : Int) (t : Nat) : v / 16 ^ t / 16 = v / 16 ^ (t + 1) := by
  rw [Int.pow_succ, Int.ediv_ediv_of_nonneg (by exact Int.pow_nonneg (by decide))]

set_option maxRecDepth 100000 in
set_option maxHeartbeats 8000000 in
theorem fmt_some (v : Int) (up : Bool) (Z : Nat) (a : Option Addr) (n c : Nat) (zs : List Int) (w : World) (v0 : 0 ≤ v) (v1 : v < 4294967296) (hZ : Z ≤ 65536) (hn : n ≤ 1048576) (hr : Rd w a n zs) (hb : ∀ y ∈ zs, 0 ≤ y ∧ y < 256) (hp : 0 < n) (hh : hx (zs.getD 0 0) < 0) :
    Calls Try.prog 4 #[.int .u32 v, .bool up, .int .i64 (Z : Int), .slice a n c] w fun e w' => e = .returned (.bool true) ∧ Below w.heap.size w w' := by
  obtain ⟨i0, hi, hz0, hz1, hz2⟩ := info_parts Try.info5
  have HR := hid hr
  have HB := hid hb
  obtain ⟨b0, off0, rfl, hc0⟩ := hr.2.2 hp
  have c1 := hc0 0 hp
  obtain ⟨y, hy⟩ : ∃ y, y = zs.getD 0 0 := ⟨_, rfl⟩
  rw [← hy, Nat.add_zero] at c1
  rw [← hy] at hh
  obtain ⟨y0, y1⟩ : 0 ≤ y ∧ y < 256 := by
    rw [hy, List.getD_eq_getElem?_getD, List.getElem?_eq_getElem (by rw [HR.out.1]; exact hp)]
    exact HB.out _ (List.getElem_mem _)
  have HH : Hid (∀ q, zs.head? = some q → hx q < 0) := by
    intro q hq
    have e : zs.getD 0 0 = q := by
      cases zs with
      | nil => simp at hq
      | cons p zs => simpa using hq
    rw [← e, ← hy]; exact hh
  clear hr hb hc0 hy
  have hd : decide (n ≤ 1048576) = true := decide_eq_true hn
  have hpi : (0 : Int) < (n : Int) := by omega
  go_enter Try.func4, Try.ntmps4
  go_wp2_with (first
    | (go_at_call 11; refine (zz11 _ _ _ _ n c _ (by unfold maxLen; omega)).mono ?_; rintro e w0 ⟨rfl, rfl⟩)
    | (go_at_call 9; refine (hexValue y _ y0 y1).mono ?_; rintro e w0 ⟨rfl, rfl⟩)
    | (go_at_call 8; refine (clone _ n c zs _ hn HR.out).mono ?_; rintro e w1 ⟨a', c', rfl, hg, hr1⟩; have HG := hid hg; have HR1 := hid hr1; clear hg hr1)
    | fail)
  have HD0 := hid (dg_start (v := v) (up := up) HG.out HR1.out)
  clear HG HR1
  generalize w1.alloc (.cells #[.int .u8 0, .int .u8 0, .int .u8 0, .int .u8 0, .int .u8 0, .int .u8 0, .int .u8 0, .int .u8 0] 30) = w2 at HD0 ⊢
  generalize w1.heap.size = L at HD0 ⊢
  go_loopw [10, 11] (fun d x wv => ∃ (t : Nat) (X : Int) (g : Nat → Int), t < 8 ∧ d = .int .i64 (t : Int) ∧ x = .int .u32 X ∧ X = v / 16 ^ t ∧ Dg w wv L v up a' n zs t g) (fun d _ _ => 8 - (intOf d).toNat)
  case atStart => exact ⟨0, v, _, by omega, rfl, rfl, by simp, HD0.out⟩
  case round =>
    obtain ⟨t, X, g, ht, rfl, rfl, hX, hdg⟩ := hrel
    obtain ⟨wa, hwa⟩ : ∃ wa, wa = wr := ⟨_, rfl⟩
    subst hwa
    have HX := hid hX
    obtain ⟨u, hu⟩ : ∃ u, u = 7 - t := ⟨_, rfl⟩
    have hui : (7 : Int) - (t : Int) = (u : Int) := by omega
    have c2 := hdg.rw.cell (j := u) (by omega)
    have c3 := hdg.rw.frozen u
    have HDG' := hid (hdg.step hu ht)
    rw [← hX] at HDG'
    obtain ⟨G, HDG⟩ : ∃ G, Hid (Dg w (wa.setCell ⟨L, u, none⟩ (.int .u8 (hc (X % 16) up))) L v up a' n zs (t + 1) G) := ⟨_, HDG'⟩
    clear HDG'
    have hu8 : u < 8 := by omega
    obtain ⟨X0, X1⟩ : 0 ≤ X ∧ X < 4294967296 := by rw [hX]; exact div_bounds v t v0 v1
    have HXS : Hid (X / 16 = v / 16 ^ (t + 1)) := by rw [hX]; exact div_succ v t
    clear hX hdg hu HD0 HX
    by_cases hq : X / 16 = 0
    · have HQ : Hid (v / 16 ^ (t + 1) = 0) := HXS.out.symm.trans hq
      have hqb : ((X / 16 == 0) : Bool) = true := by simp [hq]
      have HCC : Hid ((Z : Int) + ((t : Int) + 1) + (n : Int) = ((Z + (t + 1) + n : Nat) : Int)) := (by omega : (Z : Int) + ((t : Int) + 1) + (n : Int) = ((Z + (t + 1) + n : Nat) : Int))
      go_wp2_with (first
        | (go_at_call 12; refine (hexChar (X % 16) up _ (by omega) (by omega)).mono ?_; rintro e w3 ⟨rfl, rfl⟩)
        | (at_make; refine wpList_make_own _ rfl _ (.tmp 67) 22 rfl 0 5 i0 _ 1 Try.underlying22 hi hz0 hz1 .i64 .i64 _ (Z + (t + 1) + n) rfl rfl HCC.out (by rw [hz2]; omega) (by unfold maxLen; omega) (Nat.zero_le _) ?_; intro w4 hown hgr; have HB0 := hid (bd_start HDG.out hown hgr); clear hown hgr)
        | fail)
      have eF : (wa.setCell ⟨L, u, none⟩ (.int .u8 (hc (X % 16) up))).heap.size = wa.heap.size := by simp [World.setCell]
      rw [eF] at HB0
      generalize wa.heap.size = F at HB0 ⊢
      clear eF HDG HXS c2 c3 hqb
      obtain ⟨C, hC⟩ : ∃ C, C = Z + (t + 1) + n := ⟨_, rfl⟩
      rw [← hC] at HB0 ⊢
      have hC1 : C ≤ Z + (t + 1) + n := by omega
      have hC2 : Z + (t + 1) + n ≤ C := by omega
      clear hC HCC
      go_loopw [12, 13] (fun b i wv => ∃ k : Nat, k ≤ Z ∧ i = .int .i64 (k : Int) ∧ b = .slice (some ⟨F, 0, none⟩) k C ∧ Bd w wv L v up a' n zs (t + 1) G F C k (List.replicate k 48)) (fun _ i _ => Z - (intOf i).toNat)
      case atStart => exact ⟨0, Nat.zero_le _, rfl, rfl, HB0.out⟩
      case round =>
        obtain ⟨k, hk, rfl, rfl, hbd⟩ := hrel
        obtain ⟨wb, hwb⟩ : ∃ wb, wb = wr := ⟨_, rfl⟩
        subst hwb
        have HBD := hid hbd
        clear hbd HB0
        by_cases hkZ : k < Z
        · go_wp2_with (first
            | (at_builtin; refine wpList_append_fits _ rfl _ _ 22 rfl 0 5 i0 1 Try.underlying22 hi hz1 F (k) C ((List.replicate k 48).map (Value.int .u8)) rfl (World.ownsRow.alloc HBD.out.buf _) ⟨wb.heap.size, 0, none⟩ 1 1 [.int .u8 48] rfl rfl (cell_one_new _ _ _) (ints_oneCell .u8 [48]) (by omega) ?_; intro w5 hown5 hgr5; have HN := hid (HBD.out.app hgr5 hown5); clear hown5 hgr5)
            | fail)
          go_roundw
          case rel => exact ⟨k + 1, by omega, by go_num, rfl, by rw [List.replicate_succ']; exact HN.out⟩
          case measure => simp [intOf]; omega
        · have ek : k = Z := by omega
          rw [ek] at HBD ⊢
          clear ek hkZ hk
          go_wp2
          go_loopw [12, 14] (fun b i wv => ∃ m q : Nat, m + t = 7 + q ∧ q ≤ t + 1 ∧ i = .int .i64 (m : Int) ∧ b = .slice (some ⟨F, 0, none⟩) (Z + q) C ∧ Bd w wv L v up a' n zs (t + 1) G F C (Z + q) (List.replicate Z 48 ++ ds v up (t + 1) q)) (fun _ i _ => 8 - (intOf i).toNat)
          case atStart => exact ⟨7 - t, 0, by omega, by omega, by go_num, rfl, by simpa [ds] using HBD.out⟩
          case round =>
            obtain ⟨m, q, hmq, hqt, rfl, rfl, hbd⟩ := hrel
            obtain ⟨wc, hwc⟩ : ∃ wc, wc = wr := ⟨_, rfl⟩
            subst hwc
            have HBC := hid hbd
            clear hbd HBD
            by_cases hq8 : q ≤ t
            · have c5 := HBC.out.digit hmq hq8
              obtain ⟨x, hx'⟩ : ∃ x, x = hc (v / 16 ^ (t + 1 - 1 - q) % 16) up := ⟨_, rfl⟩
              rw [← hx'] at c5
              have HXX := hid hx'
              clear hx'
              have m8 : m < 8 := by omega
              have m8i : (m : Int) < 8 := by omega
              have HMQ := hid hmq
              clear hmq
              go_wp2_with (first
                | (at_builtin; refine wpList_append_fits _ rfl _ _ 22 rfl 0 5 i0 1 Try.underlying22 hi hz1 F (Z + q) C ((List.replicate Z 48 ++ ds v up (t + 1) q).map (Value.int .u8)) rfl (World.ownsRow.alloc HBC.out.buf _) ⟨wc.heap.size, 0, none⟩ 1 1 [.int .u8 x] rfl rfl (cell_one_new _ _ _) (ints_oneCell .u8 [x]) (by omega) ?_; intro w5 hown5 hgr5; have HN := hid (HBC.out.app hgr5 hown5); clear hown5 hgr5)
                | fail)
              go_roundw
              case rel => exact ⟨m + 1, q + 1, by have := HMQ.out; omega, by omega, by go_num, rfl, by rw [ds_snoc, ← List.append_assoc, ← HXX.out]; exact HN.out⟩
              case measure => simp [intOf]; omega
            · have eq : q = t + 1 := by omega
              have em : (m : Int) = 8 := by omega
              rw [em]
              rw [eq] at HBC ⊢
              clear eq em hqt hq8 hmq
              go_wp2
              go_loopw [12, 15] (fun b i wv => ∃ k : Nat, k ≤ n ∧ i = .int .i64 (k : Int) ∧ b = .slice (some ⟨F, 0, none⟩) (Z + (t + 1) + k) C ∧ Bd w wv L v up a' n zs (t + 1) G F C (Z + (t + 1) + k) (List.replicate Z 48 ++ ds v up (t + 1) (t + 1) ++ zs.take k)) (fun _ i _ => n - (intOf i).toNat)
              case atStart => exact ⟨0, Nat.zero_le _, rfl, rfl, by simpa using HBC.out⟩
              case round =>
                obtain ⟨k, hk, rfl, rfl, hbd⟩ := hrel
                obtain ⟨we, hwe⟩ : ∃ we, we = wr := ⟨_, rfl⟩
                subst hwe
                have HBE := hid hbd
                clear hbd HBC
                by_cases hkn : k < n
                · obtain ⟨b1, off1, ha, hce⟩ := HBE.out.dg.rd.2.2 (by omega)
                  subst ha
                  have c6 := hce k hkn
                  clear hce
                  obtain ⟨x, hx'⟩ : ∃ x, x = zs.getD k 0 := ⟨_, rfl⟩
                  rw [← hx'] at c6
                  have HXX := hid hx'
                  clear hx'
                  have k0 : (0 : Int) ≤ (k : Int) := by omega
                  have k1 : (k : Int) < (n : Int) := by omega
                  go_wp2_with (first
                    | (at_builtin; refine wpList_append_fits _ rfl _ _ 22 rfl 0 5 i0 1 Try.underlying22 hi hz1 F (Z + (t + 1) + k) C ((List.replicate Z 48 ++ ds v up (t + 1) (t + 1) ++ zs.take k).map (Value.int .u8)) rfl (World.ownsRow.alloc HBE.out.buf _) ⟨we.heap.size, 0, none⟩ 1 1 [.int .u8 x] rfl rfl (cell_one_new _ _ _) (ints_oneCell .u8 [x]) (by omega) ?_; intro w5 hown5 hgr5; have HN := hid (HBE.out.app hgr5 hown5); clear hown5 hgr5)
                    | fail)
                  go_roundw
                  case rel => exact ⟨k + 1, by omega, by go_num, rfl, by rw [take_snoc_int zs k (by rw [HR.out.1]; exact hkn), ← List.append_assoc, ← HXX.out]; exact HN.out⟩
                  case measure => simp [intOf]; omega
                · have ek : k = n := by omega
                  rw [ek] at HBE ⊢
                  clear ek hkn hk
                  rw [List.take_of_length_le (by rw [HR.out.1]; exact Nat.le_refl _)] at HBE
                  obtain ⟨f1, f2⟩ := fmt_fin v up (t + 1) Z zs HQ.out HH.out
                  have FC : Hid (((run (List.replicate Z 48 ++ ds v up (t + 1) (t + 1) ++ zs) : Nat) : Int) = (Z : Int) + ((t : Int) + 1)) := by
                    show (_ : Int) = _
                    rw [f1]; omega
                  have FV : Hid (val (List.take (run (List.replicate Z 48 ++ ds v up (t + 1) (t + 1) ++ zs)) (List.replicate Z 48 ++ ds v up (t + 1) (t + 1) ++ zs)) = v) := by
                    show (_ : Int) = _
                    rw [f1]; exact f2
                  clear f1 f2
                  go_wp2_with (first
                    | (go_at_call 10; refine (zzHex _ (Z + (t + 1) + n) C _ _ (by omega) HBE.out.buf.rd (fmt_bytes v up (t + 1) Z zs HB.out)).mono ?_; rintro e w6 ⟨rfl, rfl⟩; rw [FC.out, FV.out])
                    | fail)
                  go_ret
                  exact ⟨ret_bool (by simp), HBE.out.below⟩
    · have ht7 : t < 7 := by
        rcases Nat.lt_or_ge t 7 with h | h
        · exact h
        · exfalso
          have e : t = 7 := by omega
          have := HXS.out
          rw [e, show (16 : Int) ^ (7 + 1) = 4294967296 from rfl] at this
          exact hq (by rw [this]; omega)
      have hqb : ((X / 16 == 0) : Bool) = false := by simp [hq]
      go_wp2_with (first
        | (go_at_call 12; refine (hexChar (X % 16) up _ (by omega) (by omega)).mono ?_; rintro e w3 ⟨rfl, rfl⟩)
        | fail)
      go_roundw
      case rel => exact ⟨t + 1, X / 16, _, by omega, by go_num, rfl, HXS.out, HDG.out⟩
      case measure => simp [intOf]; omega

set_option maxRecDepth 100000 in
set_option maxHeartbeats 8000000 in
theorem fmt_zero (v : Int) (up : Bool) (Z : Nat) (a : Option Addr) (n c : Nat) (zs : List Int) (w : World) (v0 : 0 ≤ v) (v1 : v < 4294967296) (hZ : Z ≤ 65536) (hn : n ≤ 1048576) (hr : Rd w a n zs) (hb : ∀ y ∈ zs, 0 ≤ y ∧ y < 256) (hp : ¬ 0 < n) :
    Calls Try.prog 4 #[.int .u32 v, .bool up, .int .i64 (Z : Int), .slice a n c] w fun e w' => e = .returned (.bool true) ∧ Below w.heap.size w w' := by
  obtain ⟨i0, hi, hz0, hz1, hz2⟩ := info_parts Try.info5
  have HR := hid hr
  have HB := hid hb
  have HH : Hid (∀ q, zs.head? = some q → hx q < 0) := by
    intro q hq
    have e : zs = [] := List.eq_nil_of_length_eq_zero (by rw [HR.out.1]; omega)
    rw [e] at hq
    simp at hq
  clear hr hb
  have hd : decide (n ≤ 1048576) = true := decide_eq_true hn
  have hpi : ¬ (0 : Int) < (n : Int) := by omega
  have hpb : decide ((0 : Int) < (n : Int)) = false := decide_eq_false hpi
  go_enter Try.func4, Try.ntmps4
  go_wp2_with (first
    | (go_at_call 11; refine (zz11 _ _ _ _ n c _ (by unfold maxLen; omega)).mono ?_; rintro e w0 ⟨rfl, rfl⟩)
    | (go_at_call 8; refine (clone _ n c zs _ hn HR.out).mono ?_; rintro e w1 ⟨a', c', rfl, hg, hr1⟩; have HG := hid hg; have HR1 := hid hr1; clear hg hr1)
    | fail)
  have HD0 := hid (dg_start (v := v) (up := up) HG.out HR1.out)
  clear HG HR1
  generalize w1.alloc (.cells #[.int .u8 0, .int .u8 0, .int .u8 0, .int .u8 0, .int .u8 0, .int .u8 0, .int .u8 0, .int .u8 0] 30) = w2 at HD0 ⊢
  generalize w1.heap.size = L at HD0 ⊢
  go_loopw [10, 11] (fun d x wv => ∃ (t : Nat) (X : Int) (g : Nat → Int), t < 8 ∧ d = .int .i64 (t : Int) ∧ x = .int .u32 X ∧ X = v / 16 ^ t ∧ Dg w wv L v up a' n zs t g) (fun d _ _ => 8 - (intOf d).toNat)
  case atStart => exact ⟨0, v, _, by omega, rfl, rfl, by simp, HD0.out⟩
  case round =>
    obtain ⟨t, X, g, ht, rfl, rfl, hX, hdg⟩ := hrel
    obtain ⟨wa, hwa⟩ : ∃ wa, wa = wr := ⟨_, rfl⟩
    subst hwa
    have HX := hid hX
    obtain ⟨u, hu⟩ : ∃ u, u = 7 - t := ⟨_, rfl⟩
    have hui : (7 : Int) - (t : Int) = (u : Int) := by omega
    have c2 := hdg.rw.cell (j := u) (by omega)
    have c3 := hdg.rw.frozen u
    have HDG' := hid (hdg.step hu ht)
    rw [← hX] at HDG'
    obtain ⟨G, HDG⟩ : ∃ G, Hid (Dg w (wa.setCell ⟨L, u, none⟩ (.int .u8 (hc (X % 16) up))) L v up a' n zs (t + 1) G) := ⟨_, HDG'⟩
    clear HDG'
    have hu8 : u < 8 := by omega
    obtain ⟨X0, X1⟩ : 0 ≤ X ∧ X < 4294967296 := by rw [hX]; exact div_bounds v t v0 v1
    have HXS : Hid (X / 16 = v / 16 ^ (t + 1)) := by rw [hX]; exact div_succ v t
    clear hX hdg hu HD0 HX
    by_cases hq : X / 16 = 0
    · have HQ : Hid (v / 16 ^ (t + 1) = 0) := HXS.out.symm.trans hq
      have hqb : ((X / 16 == 0) : Bool) = true := by simp [hq]
      have HCC : Hid ((Z : Int) + ((t : Int) + 1) + (n : Int) = ((Z + (t + 1) + n : Nat) : Int)) := (by omega : (Z : Int) + ((t : Int) + 1) + (n : Int) = ((Z + (t + 1) + n : Nat) : Int))
      go_wp2_with (first
        | (go_at_call 12; refine (hexChar (X % 16) up _ (by omega) (by omega)).mono ?_; rintro e w3 ⟨rfl, rfl⟩)
        | (at_make; refine wpList_make_own _ rfl _ (.tmp 67) 22 rfl 0 5 i0 _ 1 Try.underlying22 hi hz0 hz1 .i64 .i64 _ (Z + (t + 1) + n) rfl rfl HCC.out (by rw [hz2]; omega) (by unfold maxLen; omega) (Nat.zero_le _) ?_; intro w4 hown hgr; have HB0 := hid (bd_start HDG.out hown hgr); clear hown hgr)
        | fail)
      have eF : (wa.setCell ⟨L, u, none⟩ (.int .u8 (hc (X % 16) up))).heap.size = wa.heap.size := by simp [World.setCell]
      rw [eF] at HB0
      generalize wa.heap.size = F at HB0 ⊢
      clear eF HDG HXS c2 c3 hqb
      obtain ⟨C, hC⟩ : ∃ C, C = Z + (t + 1) + n := ⟨_, rfl⟩
      rw [← hC] at HB0 ⊢
      have hC1 : C ≤ Z + (t + 1) + n := by omega
      have hC2 : Z + (t + 1) + n ≤ C := by omega
      clear hC HCC
      go_loopw [12, 13] (fun b i wv => ∃ k : Nat, k ≤ Z ∧ i = .int .i64 (k : Int) ∧ b = .slice (some ⟨F, 0, none⟩) k C ∧ Bd w wv L v up a' n zs (t + 1) G F C k (List.replicate k 48)) (fun _ i _ => Z - (intOf i).toNat)
      case atStart => exact ⟨0, Nat.zero_le _, rfl, rfl, HB0.out⟩
      case round =>
        obtain ⟨k, hk, rfl, rfl, hbd⟩ := hrel
        obtain ⟨wb, hwb⟩ : ∃ wb, wb = wr := ⟨_, rfl⟩
        subst hwb
        have HBD := hid hbd
        clear hbd HB0
        by_cases hkZ : k < Z
        · go_wp2_with (first
            | (at_builtin; refine wpList_append_fits _ rfl _ _ 22 rfl 0 5 i0 1 Try.underlying22 hi hz1 F (k) C ((List.replicate k 48).map (Value.int .u8)) rfl (World.ownsRow.alloc HBD.out.buf _) ⟨wb.heap.size, 0, none⟩ 1 1 [.int .u8 48] rfl rfl (cell_one_new _ _ _) (ints_oneCell .u8 [48]) (by omega) ?_; intro w5 hown5 hgr5; have HN := hid (HBD.out.app hgr5 hown5); clear hown5 hgr5)
            | fail)
          go_roundw
          case rel => exact ⟨k + 1, by omega, by go_num, rfl, by rw [List.replicate_succ']; exact HN.out⟩
          case measure => simp [intOf]; omega
        · have ek : k = Z := by omega
          rw [ek] at HBD ⊢
          clear ek hkZ hk
          go_wp2
          go_loopw [12, 14] (fun b i wv => ∃ m q : Nat, m + t = 7 + q ∧ q ≤ t + 1 ∧ i = .int .i64 (m : Int) ∧ b = .slice (some ⟨F, 0, none⟩) (Z + q) C ∧ Bd w wv L v up a' n zs (t + 1) G F C (Z + q) (List.replicate Z 48 ++ ds v up (t + 1) q)) (fun _ i _ => 8 - (intOf i).toNat)
          case atStart => exact ⟨7 - t, 0, by omega, by omega, by go_num, rfl, by simpa [ds] using HBD.out⟩
          case round =>
            obtain ⟨m, q, hmq, hqt, rfl, rfl, hbd⟩ := hrel
            obtain ⟨wc, hwc⟩ : ∃ wc, wc = wr := ⟨_, rfl⟩
            subst hwc
            have HBC := hid hbd
            clear hbd HBD
            by_cases hq8 : q ≤ t
            · have c5 := HBC.out.digit hmq hq8
              obtain ⟨x, hx'⟩ : ∃ x, x = hc (v / 16 ^ (t + 1 - 1 - q) % 16) up := ⟨_, rfl⟩
              rw [← hx'] at c5
              have HXX := hid hx'
              clear hx'
              have m8 : m < 8 := by omega
              have m8i : (m : Int) < 8 := by omega
              have HMQ := hid hmq
              clear hmq
              go_wp2_with (first
                | (at_builtin; refine wpList_append_fits _ rfl _ _ 22 rfl 0 5 i0 1 Try.underlying22 hi hz1 F (Z + q) C ((List.replicate Z 48 ++ ds v up (t + 1) q).map (Value.int .u8)) rfl (World.ownsRow.alloc HBC.out.buf _) ⟨wc.heap.size, 0, none⟩ 1 1 [.int .u8 x] rfl rfl (cell_one_new _ _ _) (ints_oneCell .u8 [x]) (by omega) ?_; intro w5 hown5 hgr5; have HN := hid (HBC.out.app hgr5 hown5); clear hown5 hgr5)
                | fail)
              go_roundw
              case rel => exact ⟨m + 1, q + 1, by have := HMQ.out; omega, by omega, by go_num, rfl, by rw [ds_snoc, ← List.append_assoc, ← HXX.out]; exact HN.out⟩
              case measure => simp [intOf]; omega
            · have eq : q = t + 1 := by omega
              have em : (m : Int) = 8 := by omega
              rw [em]
              rw [eq] at HBC ⊢
              clear eq em hqt hq8 hmq
              go_wp2
              go_loopw [12, 15] (fun b i wv => ∃ k : Nat, k ≤ n ∧ i = .int .i64 (k : Int) ∧ b = .slice (some ⟨F, 0, none⟩) (Z + (t + 1) + k) C ∧ Bd w wv L v up a' n zs (t + 1) G F C (Z + (t + 1) + k) (List.replicate Z 48 ++ ds v up (t + 1) (t + 1) ++ zs.take k)) (fun _ i _ => n - (intOf i).toNat)
              case atStart => exact ⟨0, Nat.zero_le _, rfl, rfl, by simpa using HBC.out⟩
              case round =>
                obtain ⟨k, hk, rfl, rfl, hbd⟩ := hrel
                obtain ⟨we, hwe⟩ : ∃ we, we = wr := ⟨_, rfl⟩
                subst hwe
                have HBE := hid hbd
                clear hbd HBC
                by_cases hkn : k < n
                · exact absurd hkn (by omega)
                · have ek : k = n := by omega
                  rw [ek] at HBE ⊢
                  clear ek hkn hk
                  rw [List.take_of_length_le (by rw [HR.out.1]; exact Nat.le_refl _)] at HBE
                  obtain ⟨f1, f2⟩ := fmt_fin v up (t + 1) Z zs HQ.out HH.out
                  have FC : Hid (((run (List.replicate Z 48 ++ ds v up (t + 1) (t + 1) ++ zs) : Nat) : Int) = (Z : Int) + ((t : Int) + 1)) := by
                    show (_ : Int) = _
                    rw [f1]; omega
                  have FV : Hid (val (List.take (run (List.replicate Z 48 ++ ds v up (t + 1) (t + 1) ++ zs)) (List.replicate Z 48 ++ ds v up (t + 1) (t + 1) ++ zs)) = v) := by
                    show (_ : Int) = _
                    rw [f1]; exact f2
                  clear f1 f2
                  go_wp2_with (first
                    | (go_at_call 10; refine (zzHex _ (Z + (t + 1) + n) C _ _ (by omega) HBE.out.buf.rd (fmt_bytes v up (t + 1) Z zs HB.out)).mono ?_; rintro e w6 ⟨rfl, rfl⟩; rw [FC.out, FV.out])
                    | fail)
                  go_ret
                  exact ⟨ret_bool (by simp), HBE.out.below⟩
    · have ht7 : t < 7 := by
        rcases Nat.lt_or_ge t 7 with h | h
        · exact h
        · exfalso
          have e : t = 7 := by omega
          have := HXS.out
          rw [e, show (16 : Int) ^ (7 + 1) = 4294967296 from rfl] at this
          exact hq (by rw [this]; omega)
      have hqb : ((X / 16 == 0) : Bool) = false := by simp [hq]
      go_wp2_with (first
        | (go_at_call 12; refine (hexChar (X % 16) up _ (by omega) (by omega)).mono ?_; rintro e w3 ⟨rfl, rfl⟩)
        | fail)
      go_roundw
      case rel => exact ⟨t + 1, X / 16, _, by omega, by go_num, rfl, HXS.out, HDG.out⟩
      case measure => simp [intOf]; omega
end Go.Proofs.Qxb6603046a.Hx
