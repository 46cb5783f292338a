import Derived.RowKit
namespace Go.Proofs.Qxb6606013a

/-- Is there a place below n at which p says yes? -/
def anyUp (n : Nat) (p : Nat → Bool) : Bool := (List.range n).any p

theorem anyUp_iff {n : Nat} {p : Nat → Bool} : anyUp n p = true ↔ ∃ j, j < n ∧ p j = true := by
  simp [anyUp, List.any_eq_true]

theorem anyUp_zero (p : Nat → Bool) : anyUp 0 p = false := by simp [anyUp]

theorem anyUp_succ (n : Nat) (p : Nat → Bool) : anyUp (n + 1) p = (anyUp n p || p n) := by
  simp [anyUp, List.range_succ, List.any_append]

theorem anyUp_false {n : Nat} {p : Nat → Bool} (h : ∀ j, j < n → p j = false) : anyUp n p = false := by
  rw [Bool.eq_false_iff]
  intro hc
  obtain ⟨j, hj, hp⟩ := anyUp_iff.1 hc
  rw [h j hj] at hp
  exact absurd hp (by decide)

theorem anyUp_congr {n : Nat} {p q : Nat → Bool} (h : ∀ j, j < n → p j = q j) : anyUp n p = anyUp n q := by
  rw [Bool.eq_iff_iff, anyUp_iff, anyUp_iff]
  constructor
  · rintro ⟨j, hj, hp⟩; exact ⟨j, hj, by rw [← h j hj]; exact hp⟩
  · rintro ⟨j, hj, hp⟩; exact ⟨j, hj, by rw [h j hj]; exact hp⟩

def sPrep : ByteArray := ⟨#[112, 114, 101, 112, 97, 114, 105, 110, 103]⟩
def sFin : ByteArray := ⟨#[102, 105, 110, 105, 115, 104, 105, 110, 103]⟩
def sEnd : ByteArray := ⟨#[101, 110, 100, 101, 100]⟩
def sAbo : ByteArray := ⟨#[97, 98, 111, 114, 116, 101, 100]⟩
def sCom : ByteArray := ⟨#[99, 111, 109, 109, 105, 116, 116, 101, 100]⟩

/-- In the running wave and still enlisted; of phase zero and still enlisted; still enlisted; not finished. -/
def bWave (K P W : Nat → Int) (wv : Int) (j : Nat) : Bool := P j == 0 && (K j == 3 && W j == wv)
def bPZ (K P : Nat → Int) (j : Nat) : Bool := P j == 0 && K j == 3
def bEnl (P : Nat → Int) (j : Nat) : Bool := P j == 0
def bUnf (P : Nat → Int) (j : Nat) : Bool := P j != 3

/-- The state of a decided transaction. -/
def endOf (n : Nat) (P : Nat → Int) : ByteArray := if anyUp n (bUnf P) = true then sFin else sEnd

/-- State, outcome and wave behind an answer, out of the branches' progress P behind it. -/
def after (o : ByteArray) (wv : Int) (dm : Bool) (n : Nat) (K P W : Nat → Int) : ByteArray × ByteArray × Int :=
  if anyUp n (bWave K P W wv) = true then (sPrep, o, wv)
  else if dm = true then (endOf n P, sAbo, wv)
  else if anyUp n (bPZ K P) = true then (sPrep, o, RowKit.wrap64 (wv + 1))
  else if anyUp n (bEnl P) = true then (sPrep, o, wv)
  else (endOf n P, sCom, wv)

end Go.Proofs.Qxb6606013a
