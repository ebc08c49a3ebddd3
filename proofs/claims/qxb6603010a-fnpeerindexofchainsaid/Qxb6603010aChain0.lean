import Derived.Test.Qxb6603010aChain
namespace Go.Proofs.Qxb6603010a.Pr
open Go.RowKit Go.Maps Mp

set_option maxRecDepth 100000 in
set_option maxHeartbeats 2000000 in
theorem chain0 (ao : Option Addr) (c : Nat) (pa : Option Addr) (pn pc : Nat) (pz : List Int) (w : World) (hp : Rd w pa pn pz) (hpn : pn ≤ maxLen) :
    Calls Try.prog 4 #[.slice ao 0 c, .slice pa pn pc] w fun e w' => e = .returned (.bool true) ∧ Below w.heap.size w w' := by
  have HP := hid hp
  have HPN := hid hpn
  clear hp
  go_enter Try.func4, Try.ntmps4
  go_wp2_with fail
  refine (zz9_nil ao c w pa pn pc HPN.out).mono ?_
  rintro e w0 ⟨⟨r, rfl⟩, rfl⟩
  unfold maxLen at hpn
  cases r
  · go_wp2
    go_ret
    exact ⟨rfl, Below.refl _ _⟩
  by_cases hpbig : 1048576 < pn
  · go_wp2
    go_ret
    exact ⟨rfl, Below.refl _ _⟩
  go_wp2
  refine wp_loop_rounds 1 ?_
  rw [rounds_succ]
  go_wp2_with fail
  refine (zzIndexOf ao 0 c [] w (by omega) rfl (fun h => by simp at h) (fun r hr => by cases hr)).mono ?_
  rintro e wI ⟨M, G, rfl, hbI, hidx⟩
  have HBI := hid hbI
  have HPI : Hid (Rd wI pa pn pz) := HP.out.below hbI (Nat.le_refl _)
  have cv := conv_of HPI.out pc
  have hsz : (strOfNums pz).size ≤ maxLen := by rw [strOfNums_size, HPI.out.1]; exact HPN.out
  have hlk : (Instr.lookup 25 (.map (some M)) (.string (strOfNums pz)) true).run Try.prog wI = .ok (.tuple #[.int .i64 0, .bool false]) wI :=
    MapIs.look_ok (w := wI) hidx.1 law9 Try.underlying25 (zero3 _) (kl := .string (strOfNums pz).data.toList) trivial (WideMaps.keyOf_string_mk Try.underlying9 hsz)
  clear hbI hidx hsz
  go_wp2
  refine wp_loop_rounds 1 ?_
  rw [rounds_succ]
  go_wp2
  refine wp_loop_rounds 1 ?_
  rw [rounds_succ]
  go_wp2
  go_ret
  exact ⟨rfl, HBI.out⟩

theorem chain_all (ao : Option Addr) (n c : Nat) (rs : List Rw) (pa : Option Addr) (pn pc : Nat) (pz : List Int) (w : World) (hn : n ≤ maxLen) (hz : rs.length = n) (hr : RowsAt w.heap.size w ao rs) (hok : Ok rs)
    (hp : Rd w pa pn pz) (hpn : pn ≤ maxLen) (hpb : Byt pz) :
    Calls Try.prog 4 #[.slice ao n c, .slice pa pn pc] w fun e w' => e = .returned (.bool true) ∧ Below w.heap.size w w' := by
  by_cases h : n = 0
  · subst h; exact chain0 ao c pa pn pc pz w hp hpn
  · exact chain ao n c rs pa pn pc pz w hn hz hr hok hp hpn hpb (by omega)
end Go.Proofs.Qxb6603010a.Pr
