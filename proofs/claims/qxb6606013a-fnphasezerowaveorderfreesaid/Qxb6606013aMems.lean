import Derived.Test.Qxb6606013aAft
namespace Go.Proofs.Qxb6606013a
open Go.ChangeShapes Go.WideShapes Go.ChangeAt Go.RowKit
set_option linter.unusedVariables false

/-- Is branch j of the running wave, and still enlisted? -/
def mem (K P W : Nat → Int) (wv : Int) (j : Nat) : Bool := K j == 3 && (P j == 0 && W j == wv)
/-- The members among the first k branches, ascending. -/
def mems (K P W : Nat → Int) (wv : Int) (k : Nat) : List Nat := (List.range k).filter (mem K P W wv)
/-- The branches' progress once those of l have answered. -/
def pg (A P : Nat → Int) (l : List Nat) (j : Nat) : Int := if j ∈ l then A j else P j

section
variable {K P W A : Nat → Int} {wv : Int}

theorem mems_yes {k : Nat} (h : mem K P W wv k = true) : mems K P W wv (k + 1) = mems K P W wv k ++ [k] := by
  simp [mems, List.range_succ, List.filter_append, h]
theorem mems_no {k : Nat} (h : mem K P W wv k = false) : mems K P W wv (k + 1) = mems K P W wv k := by
  simp [mems, List.range_succ, List.filter_append, h]
theorem mems_le (k : Nat) : (mems K P W wv k).length ≤ k := by
  have := List.length_filter_le (mem K P W wv) (List.range k)
  simpa [mems] using this
theorem mems_iff {k j : Nat} : j ∈ mems K P W wv k ↔ j < k ∧ mem K P W wv j = true := by
  simp [mems]
theorem mems_lt (k i j : Nat) (hi : i < (mems K P W wv k).length) (hj : j < (mems K P W wv k).length) (h : i < j) : (mems K P W wv k)[i] < (mems K P W wv k)[j] :=
  List.pairwise_iff_getElem.1 (List.Pairwise.filter _ List.pairwise_lt_range) i j hi hj h

theorem pg_upd (l : List Nat) (i : Nat) : upd (pg A P l) i (A i) = pg A P (l ++ [i]) := by
  funext j
  by_cases e : j = i
  · subst e; simp [upd, pg]
  · simp [upd, pg, e]
theorem pg_upd_cons (l : List Nat) (i : Nat) : upd (pg A P l) i (A i) = pg A P (i :: l) := by
  funext j
  by_cases e : j = i
  · subst e; simp [upd, pg]
  · simp [upd, pg, e]

/-- While a member has not answered the wave runs on. -/
theorem wave_runs {n i : Nat} {l : List Nat} (hi : i ∈ mems K P W wv n) (hl : i ∉ l) : anyUp n (bWave K (pg A P l) W wv) = true := by
  obtain ⟨hn, hm⟩ := mems_iff.1 hi
  simp [mem] at hm
  refine anyUp_iff.2 ⟨i, hn, ?_⟩
  simp [bWave, pg, hl, hm]

theorem pg_final {n j : Nat} (hj : j < n) : pg A P (mems K P W wv n) j = if mem K P W wv j = true then A j else P j := by
  simp [pg, mems_iff, hj]

theorem after_mid {o : ByteArray} {dm : Bool} {n i : Nat} {l : List Nat} (hi : i ∈ mems K P W wv n) (hl : i ∉ l) : after o wv dm n K (pg A P l) W = (sPrep, o, wv) := after1 (wave_runs hi hl)

/-- Up: the k-th answer. -/
theorem up_step {n k : Nat} (hk : k < (mems K P W wv n).length) : upd (pg A P ((mems K P W wv n).take k)) ((mems K P W wv n)[k]) (A ((mems K P W wv n)[k])) = pg A P ((mems K P W wv n).take (k + 1)) := by
  rw [pg_upd, List.take_succ_eq_append_getElem hk]
theorem down_step {n k : Nat} (hk : k < (mems K P W wv n).length) : upd (pg A P ((mems K P W wv n).drop (k + 1))) ((mems K P W wv n)[k]) (A ((mems K P W wv n)[k])) = pg A P ((mems K P W wv n).drop k) := by
  rw [pg_upd_cons, List.drop_eq_getElem_cons hk]

theorem up_rest {n k : Nat} (hk : k + 1 < (mems K P W wv n).length) : (mems K P W wv n)[k + 1] ∉ (mems K P W wv n).take (k + 1) := by
  intro h
  obtain ⟨i, hi, he⟩ := List.mem_take_iff_getElem.1 h
  have := mems_lt (K := K) (P := P) (W := W) (wv := wv) n i (k + 1) (by omega) hk (by omega)
  omega
theorem down_rest {n k : Nat} (hk : k < (mems K P W wv n).length) (h0 : 0 < k) : (mems K P W wv n)[k - 1] ∉ (mems K P W wv n).drop k := by
  intro h
  obtain ⟨i, hi, he⟩ := List.mem_drop_iff_getElem.1 h
  have := mems_lt (K := K) (P := P) (W := W) (wv := wv) n (k - 1) (k + i) (by omega) (by omega) (by omega)
  omega
end
end Go.Proofs.Qxb6606013a
