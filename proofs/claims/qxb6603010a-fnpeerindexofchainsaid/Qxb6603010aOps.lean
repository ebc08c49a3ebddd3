import Derived.Test.Qxb6603010aIndex
namespace Go.Proofs.Qxb6603010a.Pr
open Go.RowKit Go.Maps Mp

/-- what ZZIndexOf hands back -/
def Idx (w' : World) (rs : List Rw) (n M G : Nat) : Prop :=
  MapIs Try.prog 9 w' M (fmap (key rs) n 0) (cnt (key rs) n 0) ∧ ∃ zs, IRow w' G zs ∧ zs.length = n ∧ ∀ i, i < n → zs.getD i 0 = nval (key rs) n i
theorem Idx.below {B : Nat} {w w' : World} {rs : List Rw} {n M G : Nat} (h : Idx w rs n M G) (hb : Below B w w') (hB : w.heap.size ≤ B) : Idx w' rs n M G := by
  obtain ⟨h1, zs, h2, h3⟩ := h
  exact ⟨h1.block (hb.block M (by have := h1.lt; omega)), zs, (hb.block G (by have := lt_of h2; omega)).trans h2, h3⟩

set_option maxHeartbeats 800000 in
theorem zzIndexOf (ao : Option Addr) (n c : Nat) (rs : List Rw) (w : World) (hn : n ≤ 32768) (hz : rs.length = n) (hr : RowsAt w.heap.size w ao rs) (hok : Ok rs) :
    Calls Try.prog 7 #[.slice ao n c] w fun e w' => ∃ M G, e = .returned (.tuple #[.map (some M), .slice (some ⟨G, 0, none⟩) n n]) ∧ Below w.heap.size w w' ∧ Idx w' rs n M G := by
  have H := indexOf ao n c rs w hn hz hr hok
  clear hz hr hok
  go_enter Try.func7, Try.ntmps7
  go_wp2_with (go_at_call 13; refine H.mono ?_; rintro e w1 ⟨M, G, zs, rfl, hb, hm, hg, hl, hv⟩; have HB := hid hb; have HI : Hid (Idx w1 rs n M G) := ⟨hm, zs, hg, hl, hv⟩; clear hb hm hg hl hv)
  go_quiet (fail)
  go_wp2
  go_ret2
  refine ⟨M, G, rfl, ?_, ?_⟩
  · exact below_drewN (HB.out.alloc HB.out.size _) _
  · exact (HI.out.below (below_drewN ((Below.refl _ _).alloc (Nat.le_refl _) _) _) (Nat.le_refl _))

def RetB (e : Ending) : Prop := ∃ r, e = .returned (.bool r)
theorem RetB.mk (r : Bool) : RetB (.returned (.bool r)) := ⟨r, rfl⟩

theorem zz6_nil (a : Option Addr) (c : Nat) (w : World) : Calls Try.prog 6 #[.slice a 0 c] w fun e w' => RetB e ∧ w = w' := by
  go_enter Try.func6, Try.ntmps6
  go_wp2
  refine wp_loop_rounds 1 ?_
  rw [rounds_succ]
  go_wp2
  all_goals
    go_ret
    exact ⟨RetB.mk _, rfl⟩

set_option maxHeartbeats 1000000 in
theorem zz6 (ao : Option Addr) (n c : Nat) (rs : List Rw) (w : World) (hn : n ≤ maxLen) (hz : rs.length = n) (hr : RowsAt w.heap.size w ao rs) (hok : Ok rs) :
    Calls Try.prog 6 #[.slice ao n c] w fun e w' => RetB e ∧ w = w' := by
  by_cases h0 : n = 0
  · subst h0; exact zz6_nil ao c w
  obtain ⟨b, off, rfl, _, hrow⟩ := hr (by omega)
  unfold maxLen at hn
  have HC := hid hrow
  have HO := hid hok
  have HN := hid hz
  clear hrow hok hz hr
  by_cases hbig : 1048576 < n
  · go_enter Try.func6, Try.ntmps6
    go_wp2
    go_ret
    exact ⟨RetB.mk _, rfl⟩
  go_enter Try.func6, Try.ntmps6
  go_wp2
  go_loop [3, 4] (fun z i => ∃ (k : Nat) (t : Int), k ≤ n ∧ i = .int .i64 k ∧ z = .int .i64 t ∧ 0 ≤ t ∧ t ≤ 1048576) (fun _ i => n - (intOf i).toNat)
  case atStart => exact ⟨0, n, Nat.zero_le _, rfl, rfl, by omega, by omega⟩
  case round =>
    obtain ⟨k, t, hk, rfl, rfl, ht0, ht1⟩ := hrel
    by_cases hlt : k < n
    · obtain ⟨c0, _, _⟩ := HC.out k (by rw [HN.out]; exact hlt)
      obtain ⟨z0, _⟩ := HO.out _ (R_mem (rs := rs) (i := k) (by rw [HN.out]; exact hlt))
      generalize R rs k = x at *
      obtain ⟨xa, xn, xc, xz⟩ := x
      dsimp only at c0 z0
      unfold maxLen at z0
      go_wp2
      all_goals first
        | (go_ret; exact ⟨RetB.mk _, rfl⟩)
        | skip
      go_round
      case rel => exact ⟨k + 1, _, by omega, by go_num, rfl, by omega, by omega⟩
      case measure => simp [intOf]; omega
    · go_wp2
      all_goals
        go_ret
        exact ⟨RetB.mk _, rfl⟩

theorem zz9_nil (a : Option Addr) (c : Nat) (w : World) (pa : Option Addr) (pn pc : Nat) (hpn : pn ≤ maxLen) : Calls Try.prog 9 #[.slice a 0 c, .slice pa pn pc] w fun e w' => RetB e ∧ w = w' := by
  unfold maxLen at hpn
  go_enter Try.func9, Try.ntmps9
  go_wp2
  refine wp_loop_rounds 1 ?_
  rw [rounds_succ]
  go_wp2
  all_goals
    go_ret
    exact ⟨RetB.mk _, rfl⟩

set_option maxHeartbeats 1000000 in
theorem zz9 (ao : Option Addr) (n c : Nat) (rs : List Rw) (w : World) (hn : n ≤ maxLen) (hz : rs.length = n) (hr : RowsAt w.heap.size w ao rs) (hok : Ok rs) (pa : Option Addr) (pn pc : Nat) (hpn : pn ≤ maxLen) :
    Calls Try.prog 9 #[.slice ao n c, .slice pa pn pc] w fun e w' => RetB e ∧ w = w' := by
  by_cases h0 : n = 0
  · subst h0; exact zz9_nil ao c w pa pn pc hpn
  obtain ⟨b, off, rfl, _, hrow⟩ := hr (by omega)
  unfold maxLen at hn
  unfold maxLen at hpn
  have HC := hid hrow
  have HO := hid hok
  have HN := hid hz
  clear hrow hok hz hr
  by_cases hbig : 1048576 < n
  · go_enter Try.func9, Try.ntmps9
    go_wp2
    go_ret
    exact ⟨RetB.mk _, rfl⟩
  go_enter Try.func9, Try.ntmps9
  go_wp2
  go_loop [5, 6] (fun z i => ∃ (k : Nat) (t : Int), k ≤ n ∧ i = .int .i64 k ∧ z = .int .i64 t ∧ 0 ≤ t ∧ t ≤ 1048576) (fun _ i => n - (intOf i).toNat)
  case atStart => exact ⟨0, n, Nat.zero_le _, rfl, rfl, by omega, by omega⟩
  case round =>
    obtain ⟨k, t, hk, rfl, rfl, ht0, ht1⟩ := hrel
    by_cases hlt : k < n
    · obtain ⟨c0, _, _⟩ := HC.out k (by rw [HN.out]; exact hlt)
      obtain ⟨z0, _⟩ := HO.out _ (R_mem (rs := rs) (i := k) (by rw [HN.out]; exact hlt))
      generalize R rs k = x at *
      obtain ⟨xa, xn, xc, xz⟩ := x
      dsimp only at c0 z0
      unfold maxLen at z0
      go_wp2
      all_goals first
        | (go_ret; exact ⟨RetB.mk _, rfl⟩)
        | skip
      go_round
      case rel => exact ⟨k + 1, _, by omega, by go_num, rfl, by omega, by omega⟩
      case measure => simp [intOf]; omega
    · go_wp2
      all_goals
        go_ret
        exact ⟨RetB.mk _, rfl⟩

end Go.Proofs.Qxb6603010a.Pr
