import Derived.Test.Qxb6602978aLayWalks
namespace Go.Proofs.Qxb6602978a.Lay
open Go.RowKit Go.Maps Mp

structure Fld where
  nm : ByteArray
  tp : ByteArray
  ln : Int
  dc : Int
  st : Int

def lkS (acc : List Fld) (l : List UInt8) : Option Fld := acc.find? (fun a => a.nm.data.toList == l)
def lk (acc : List Fld) : Lit → Option Value
  | .string l => (lkS acc l).map fun a => sp a.nm a.tp a.ln a.dc a.st
  | _ => none

def Lay (B : Nat) (w : World) (acc : List Fld) (sz : Int) (nv : Value) : Prop :=
  w.heap[B + 1]? = some (.cells #[.map (some B), nv, .int .i64 sz] 46 (0, 0)) ∧ MapIs Try.prog 9 w B (lk acc) acc.length ∧ w.ownsRow B 9 1 nv acc.length (acc.map fun a => .string a.nm)

theorem new_any (w : World) : Calls Try.prog 18 #[] w fun e w' => e = .returned (.pointer (some ⟨w.heap.size + 1, 0, none⟩)) ∧ Below w.heap.size w w' ∧ Lay w.heap.size w' [] 0 (.slice none 0 0) := by
  have hmm := @run_makeMap Try.prog
  go_enter Try.func18, Try.ntmps18
  go_wp2
  go_ret
  refine ⟨rfl, ((Below.refl _ _).alloc (Nat.le_refl _) _).alloc (by simp) _, ?_, ?_, World.ownsRow_nil _ _ _ _⟩
  · have := heap_alloc_new (w.alloc (.map #[] 0)) (.cells #[.map (some w.heap.size), .slice none 0 0, .int .i64 0] 46)
    simpa using this
  · refine (MapIs.block (made w Try.prog 9) (al1 (w.alloc _) _ _ (by simp))).congr (fun kl hk => ?_)
    cases kl <;> rfl

theorem lay_below {B B' : Nat} {w w' : World} {acc : List Fld} {sz : Int} {nv : Value} (h : Lay B w acc sz nv) (hb : Below B' w w') (hB : w.heap.size ≤ B') : Lay B w' acc sz nv := by
  obtain ⟨h1, h2, h3⟩ := h
  have hL := lt_of h1
  refine ⟨(hb.block _ (by omega)).trans h1, h2.block (hb.block _ (by omega)), h3.1, ?_⟩
  rcases h3.2 with h | ⟨g, cap, cur, hv, hg, hh, r⟩
  · exact Or.inl h
  · exact Or.inr ⟨g, cap, cur, hv, hg, (hb.block g (by have := lt_of hh; omega)).trans hh, r⟩

theorem lk_none {acc : List Fld} {nm : ByteArray} (h : lkS acc nm.data.toList = none) : lk acc (.string nm.data.toList) = none := by simp [lk, h]

theorem lk_snoc {acc : List Fld} {a : Fld} (h : lkS acc a.nm.data.toList = none) :
    lk (acc ++ [a]) (.string a.nm.data.toList) = some (sp a.nm a.tp a.ln a.dc a.st) ∧ ∀ x, WideAt.IsKeyLit x → x ≠ .string a.nm.data.toList → lk (acc ++ [a]) x = lk acc x := by
  unfold lkS at h
  constructor
  · have e : lkS (acc ++ [a]) a.nm.data.toList = some a := by
      unfold lkS
      rw [List.find?_append, h]
      simp
    show (lkS (acc ++ [a]) a.nm.data.toList).map _ = _
    rw [e]; rfl
  · intro x _ hx
    cases x <;> try rfl
    rename_i l _
    have hl : (a.nm.data.toList == l) = false := by
      simp only [beq_eq_false_iff_ne, ne_eq]
      intro e; exact hx (by rw [e])
    have e : lkS (acc ++ [a]) l = lkS acc l := by
      unfold lkS
      rw [List.find?_append, List.find?_cons_of_neg (by simp only [hl]; simp)]
      simp
    show (lkS (acc ++ [a]) l).map _ = (lkS acc l).map _
    rw [e]

theorem zzAdd_old (B : Nat) (nm tp : ByteArray) (ln dc : Int) (w : World) (acc : List Fld) (sz : Int) (nv : Value) (hl : Lay B w acc sz nv) (hnm : nm.size ≤ maxLen) (h : (lkS acc nm.data.toList).isSome = true) :
    Calls Try.prog 19 #[.pointer (some ⟨B + 1, 0, none⟩), .string nm, .string tp, .int .i64 ln, .int .i64 dc] w fun e w' => e = .returned (.bool false) ∧ Below w.heap.size w w' := by
  obtain ⟨a, ha⟩ := Option.isSome_iff_exists.1 h
  have H := add_old (B + 1) B nm tp ln dc w a.nm a.tp a.ln a.dc a.st (row3 hl.1).1 hl.2.1.lt (fun x hx => by
    have := (hl.2.1.block hx).look_ok law9 Try.underlying44 (zero52 x) (kl := .string nm.data.toList) trivial (WideMaps.keyOf_string_mk Try.underlying9 hnm)
    simp only [lk, ha] at this
    exact this)
  clear h ha hl
  go_enter Try.func19, Try.ntmps19
  go_wp2_with (go_at_call 27; refine H.mono ?_; rintro e w' ⟨rfl, hb⟩)
  go_ret
  exact ⟨rfl, hb⟩

theorem zzAdd_new (B : Nat) (nm tp : ByteArray) (ln dc : Int) (w : World) (acc : List Fld) (sz : Int) (nv : Value) (hl : Lay B w acc sz nv) (hnm : nm.size ≤ maxLen) (hn : acc.length ≤ 4096) (h : lkS acc nm.data.toList = none) :
    Calls Try.prog 19 #[.pointer (some ⟨B + 1, 0, none⟩), .string nm, .string tp, .int .i64 ln, .int .i64 dc] w fun e w' => e = .returned (.bool true) ∧ Below B w w' ∧ ∃ nv', Lay B w' (acc ++ [⟨nm, tp, ln, dc, sz⟩]) (wrap64 (sz + ln)) nv' := by
  have hs := lk_snoc (a := ⟨nm, tp, ln, dc, sz⟩) h
  have H := add_new B (B + 1) B nm tp ln dc w nv sz (lk acc) (lk (acc ++ [⟨nm, tp, ln, dc, sz⟩])) acc.length acc.length _ hl.1 (by omega) (Nat.le_refl _) hl.2.1 hl.2.2 hnm hn hn (lk_none h) hs.1 hs.2
  clear h hl hs
  go_enter Try.func19, Try.ntmps19
  go_wp2_with (go_at_call 27; refine H.mono ?_; rintro e w' ⟨rfl, hb, nv', h1, h2, h3⟩)
  go_ret
  exact ⟨rfl, hb, nv', h1, by simpa using h2, by simpa using h3⟩

theorem zzSize (B : Nat) (w : World) (acc : List Fld) (sz : Int) (nv : Value) (hl : Lay B w acc sz nv) :
    Calls Try.prog 20 #[.pointer (some ⟨B + 1, 0, none⟩)] w fun e w' => e = .returned (.int .i64 sz) ∧ w = w' := by
  obtain ⟨c0, c1, c2, _, _⟩ := row3 hl.1
  clear hl
  go_enter Try.func20, Try.ntmps20
  go_wp2
  go_ret
  exact ⟨rfl, rfl⟩

theorem zzNames (B : Nat) (w : World) (acc : List Fld) (sz : Int) (nv : Value) (hl : Lay B w acc sz nv) :
    Calls Try.prog 22 #[.pointer (some ⟨B + 1, 0, none⟩)] w fun e w' => e = .returned nv ∧ w = w' := by
  obtain ⟨c0, c1, c2, _, _⟩ := row3 hl.1
  clear hl
  go_enter Try.func22, Try.ntmps22
  go_wp2
  go_ret
  exact ⟨rfl, rfl⟩

theorem zzCount (B : Nat) (w : World) (acc : List Fld) (sz : Int) (nv : Value) (hl : Lay B w acc sz nv) :
    Calls Try.prog 21 #[.pointer (some ⟨B + 1, 0, none⟩)] w fun e w' => e = .returned (.int .i64 acc.length) ∧ w = w' := by
  obtain ⟨c0, c1, c2, _, _⟩ := row3 hl.1
  have hlen := fun ty => hl.2.1.len Try.underlying44 ty
  clear hl
  go_enter Try.func21, Try.ntmps21
  go_wp2
  go_ret
  exact ⟨rfl, rfl⟩

set_option maxHeartbeats 1000000 in
theorem zzSpan (B : Nat) (nm : ByteArray) (w : World) (acc : List Fld) (sz : Int) (nv : Value) (hl : Lay B w acc sz nv) (hnm : nm.size ≤ maxLen) (a : Fld) (ha : lkS acc nm.data.toList = some a) :
    Calls Try.prog 23 #[.pointer (some ⟨B + 1, 0, none⟩), .string nm] w fun e w' => e = .returned (.tuple #[.string a.tp, .int .i64 a.ln, .int .i64 a.dc, .int .i64 a.st, .bool true]) ∧ Below w.heap.size w w' := by
  obtain ⟨c0, c1, c2, _, _⟩ := row3 hl.1
  have hlk : (Instr.lookup 44 (.map (some B)) (.string nm) true).run Try.prog w = .ok (.tuple #[.agg #[.string a.nm, .string a.tp, .int .i64 a.ln, .int .i64 a.dc, .int .i64 a.st], .bool true]) w := by
    have := hl.2.1.look_ok law9 Try.underlying44 (zero52 w) (kl := .string nm.data.toList) trivial (WideMaps.keyOf_string_mk Try.underlying9 hnm)
    simp only [lk, ha] at this
    exact this
  clear hl ha
  go_enter Try.func23, Try.ntmps23
  go_wp2
  go_quiet (fail)
  go_wp2
  exact bodyPost_ret (v := .tuple #[.string a.tp, .int .i64 a.ln, .int .i64 a.dc, .int .i64 a.st, .bool true]) (by simp [results, Try.results23, go_sem]) rfl ⟨rfl, below_drewN ((Below.refl _ _).alloc (Nat.le_refl _) _) _⟩
end Go.Proofs.Qxb6602978a.Lay
