import Derived.Test.Qxb6603010aWhole
namespace Go.Proofs.Qxb6603010a.Pr
open Go.RowKit Go.Maps Mp

set_option maxRecDepth 100000 in
set_option maxHeartbeats 2000000 in
theorem whole0 (ao : Option Addr) (c : Nat) (w : World) : Calls Try.prog 3 #[.slice ao 0 c] w fun e w' => e = .returned (.bool true) ∧ Below w.heap.size w w' := by
  have qm := fun (W : World) (r : Option Nat) => run_eql_map_nil (P := Try.prog) W 25 9 3 r Try.underlying25
  have qs := fun (W : World) (a : Option Addr) (k l : Nat) => Lib.run_eql_slice_nil (P := Try.prog) W 26 3 a k l 0 0 Try.underlying26
  go_enter Try.func3, Try.ntmps3
  go_wp2_with fail
  refine (zz6_nil ao c w).mono ?_
  rintro e w0 ⟨⟨r, rfl⟩, rfl⟩
  cases r
  · go_wp2
    go_ret
    exact ⟨rfl, Below.refl _ _⟩
  go_wp2
  refine wp_loop_rounds 1 ?_
  rw [rounds_succ]
  go_wp2_with fail
  refine (zzIndexOf ao 0 c [] w (by omega) rfl (fun h => by simp at h) (fun r hr => by cases hr)).mono ?_
  rintro e wI ⟨M, G, rfl, hbI, hidx⟩
  have HBI := hid hbI
  have hlen : ∀ ty, (Builtin.len_ #[25] ty #[.map (some M)]).run Try.prog wI = .ok (.int .i64 0) wI := fun ty => MapIs.len hidx.1 Try.underlying25 ty
  clear hbI hidx
  go_wp2
  refine wp_loop_rounds 1 ?_
  rw [rounds_succ]
  go_wp2
  go_ret
  exact ⟨rfl, HBI.out⟩

theorem whole_all (ao : Option Addr) (n c : Nat) (rs : List Rw) (w : World) (hn : n ≤ maxLen) (hz : rs.length = n) (hr : RowsAt w.heap.size w ao rs) (hok : Ok rs) :
    Calls Try.prog 3 #[.slice ao n c] w fun e w' => e = .returned (.bool true) ∧ Below w.heap.size w w' := by
  by_cases h : n = 0
  · subst h; exact whole0 ao c w
  · exact whole ao n c rs w hn hz hr hok (by omega)
end Go.Proofs.Qxb6603010a.Pr
