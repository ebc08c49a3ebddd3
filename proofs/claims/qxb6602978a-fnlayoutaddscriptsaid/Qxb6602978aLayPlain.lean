import Derived.Test.Qxb6602978aLayIn
namespace Go.Proofs.Qxb6602978a.Lay
open Go.RowKit Go.Maps Mp

def F (fs : List FIn) (i : Nat) : FIn := fs.getD i fin0
def nmL (fs : List FIn) (i : Nat) : List UInt8 := (F fs i).nm.data.toList

def fstOf (fs : List FIn) (k : Nat) (l : List UInt8) : Option Nat := (List.range k).find? fun j => nmL fs j == l
def fi (fs : List FIn) (i : Nat) : Nat := (fstOf fs i (nmL fs i)).getD i

theorem fstOf_lt {fs : List FIn} {k : Nat} {l : List UInt8} {j : Nat} (h : fstOf fs k l = some j) : j < k ∧ nmL fs j = l := by
  unfold fstOf at h
  have h1 := List.mem_of_find?_eq_some h
  have h2 := List.find?_some h
  exact ⟨by simpa using h1, by simpa using h2⟩

theorem fstOf_succ (fs : List FIn) (k : Nat) (l : List UInt8) : fstOf fs (k + 1) l = (fstOf fs k l).or (if nmL fs k == l then some k else none) := by
  unfold fstOf
  rw [List.range_succ, List.find?_append]
  congr 1
  by_cases h : (nmL fs k == l) = true
  · rw [List.find?_cons_of_pos (by simpa using h), if_pos h]
  · rw [List.find?_cons_of_neg (by simpa using h), if_neg h]; rfl

theorem fi_le (fs : List FIn) (i : Nat) : fi fs i ≤ i := by
  unfold fi
  cases h : fstOf fs i (nmL fs i) with
  | none => simp
  | some j => have := (fstOf_lt h).1; simp; omega

theorem fi_eq_iff (fs : List FIn) (i : Nat) : fi fs i = i ↔ fstOf fs i (nmL fs i) = none := by
  unfold fi
  cases h : fstOf fs i (nmL fs i) with
  | none => simp
  | some j => have := (fstOf_lt h).1; simp; omega

/-- the record's size and the accepted fields after k adds -/
def stp (fs : List FIn) : Nat → List Fld × Int
  | 0 => ([], 0)
  | k + 1 => if fi fs k = k then ((stp fs k).1 ++ [⟨(F fs k).nm, (F fs k).tp, (F fs k).ln, (F fs k).dc, (stp fs k).2⟩], wrap64 ((stp fs k).2 + (F fs k).ln)) else stp fs k

def acc (fs : List FIn) (k : Nat) : List Fld := (stp fs k).1
def sm (fs : List FIn) (k : Nat) : Int := (stp fs k).2
def fld (fs : List FIn) (k : Nat) : Fld := ⟨(F fs k).nm, (F fs k).tp, (F fs k).ln, (F fs k).dc, sm fs k⟩

theorem acc_yes {fs : List FIn} {k : Nat} (h : fi fs k = k) : acc fs (k + 1) = acc fs k ++ [fld fs k] := by unfold acc; rw [stp, if_pos h]; rfl
theorem acc_no {fs : List FIn} {k : Nat} (h : ¬ fi fs k = k) : acc fs (k + 1) = acc fs k := by unfold acc; rw [stp, if_neg h]
theorem sm_yes {fs : List FIn} {k : Nat} (h : fi fs k = k) : sm fs (k + 1) = wrap64 (sm fs k + (F fs k).ln) := by unfold sm; rw [stp, if_pos h]
theorem sm_no {fs : List FIn} {k : Nat} (h : ¬ fi fs k = k) : sm fs (k + 1) = sm fs k := by unfold sm; rw [stp, if_neg h]

theorem acc_len (fs : List FIn) (k : Nat) : (acc fs k).length ≤ k := by
  induction k with
  | zero => simp [acc, stp]
  | succ k ih =>
    by_cases h : fi fs k = k
    · rw [acc_yes h]; simp; omega
    · rw [acc_no h]; omega

theorem lkS_acc (fs : List FIn) (k : Nat) (l : List UInt8) : lkS (acc fs k) l = (fstOf fs k l).map (fld fs) := by
  induction k with
  | zero => rfl
  | succ k ih =>
    rw [fstOf_succ]
    by_cases h : fi fs k = k
    · rw [acc_yes h]
      unfold lkS at ih ⊢
      rw [List.find?_append, ih]
      have hn : ((fld fs k).nm.data.toList == l) = (nmL fs k == l) := rfl
      by_cases hl : (nmL fs k == l) = true
      · rw [List.find?_cons_of_pos (by simp only [hn, hl]), if_pos hl]
        cases fstOf fs k l <;> rfl
      · rw [List.find?_cons_of_neg (by simp only [hn]; exact hl), if_neg hl]
        cases fstOf fs k l <;> rfl
    · rw [acc_no h, ih]
      by_cases hl : (nmL fs k == l) = true
      · have e : nmL fs k = l := by simpa using hl
        rw [fi_eq_iff, e] at h
        cases hh : fstOf fs k l with
        | none => exact absurd hh h
        | some j => rfl
      · rw [if_neg hl]
        cases fstOf fs k l <;> rfl

theorem lk_isSome {fs : List FIn} {k : Nat} (h : ¬ fi fs k = k) : (lkS (acc fs k) (F fs k).nm.data.toList).isSome = true := by
  rw [lkS_acc]
  rw [fi_eq_iff] at h
  show ((fstOf fs k (nmL fs k)).map _).isSome = true
  cases hh : fstOf fs k (nmL fs k) with
  | none => exact absurd hh h
  | some j => rfl
theorem lk_isNone {fs : List FIn} {k : Nat} (h : fi fs k = k) : lkS (acc fs k) (F fs k).nm.data.toList = none := by
  rw [lkS_acc]
  rw [fi_eq_iff] at h
  show (fstOf fs k (nmL fs k)).map _ = none
  rw [h]; rfl

theorem fstOf_mono {fs : List FIn} {l : List UInt8} {i : Nat} : ∀ k, i < k → nmL fs i = l → fstOf fs k l = some ((fstOf fs i l).getD i) := by
  intro k
  induction k with
  | zero => intro h; omega
  | succ k ih =>
    intro h e
    rw [fstOf_succ]
    by_cases hk : i = k
    · subst hk
      rw [if_pos (by simpa using e)]
      cases fstOf fs i l <;> rfl
    · rw [ih (by omega) e]; rfl

theorem lk_all {fs : List FIn} {n i : Nat} (h : i < n) : lkS (acc fs n) (F fs i).nm.data.toList = some (fld fs (fi fs i)) := by
  rw [lkS_acc]
  show (fstOf fs n (nmL fs i)).map _ = _
  rw [fstOf_mono n h rfl]
  rfl

theorem acc_prefix (fs : List FIn) {i : Nat} : ∀ n, i ≤ n → ∃ r, acc fs n = acc fs i ++ r := by
  intro n
  induction n with
  | zero =>
    intro h
    have e : i = 0 := by omega
    subst e
    exact ⟨[], by simp⟩
  | succ n ih =>
    intro h
    by_cases e : i = n + 1
    · subst e; exact ⟨[], by simp⟩
    · obtain ⟨r, hr⟩ := ih (by omega)
      by_cases hf : fi fs n = n
      · rw [acc_yes hf, hr]; exact ⟨r ++ [fld fs n], by simp⟩
      · rw [acc_no hf, hr]; exact ⟨r, rfl⟩

theorem acc_at {fs : List FIn} {n i : Nat} (h : i < n) (hf : fi fs i = i) : (acc fs i).length < (acc fs n).length ∧ ((acc fs n).map fun a => Value.string a.nm)[(acc fs i).length]? = some (.string (F fs i).nm) := by
  obtain ⟨r, hr⟩ := acc_prefix fs n (show i + 1 ≤ n by omega)
  rw [hr, acc_yes hf]
  refine ⟨by simp, ?_⟩
  simp [fld]
theorem acc_le {fs : List FIn} {n i : Nat} (h : i ≤ n) : (acc fs i).length ≤ (acc fs n).length := by
  obtain ⟨r, hr⟩ := acc_prefix fs n h
  rw [hr]; simp

end Go.Proofs.Qxb6602978a.Lay
