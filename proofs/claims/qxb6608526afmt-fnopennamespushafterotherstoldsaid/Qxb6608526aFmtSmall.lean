import Derived.Test.Qxb6608526aFmtRows
import Derived.Test.Qxb6608526aFmtPlain
import Derived.WalkKit
import Derived.ProofKit
import Derived.OpenShut
import Derived.WalkSpells
import Derived.WalkSmall
import Derived.WalkLawsBesides
import Derived.Handy
import Derived.Deep.OwnRows
import Derived.Deep.QuietTactic
import Derived.BigQuiet
import Derived.Deep.Light
import Derived.Deep.RegionHeld3
import Derived.Deep.AppendLies
import Derived.Deep.DrawnRows
namespace Go.Proofs.Qxb6608526aFmt
open Go.ChangeShapes Go.WideShapes Go.ChangeAt Go.RowKit
set_option linter.unusedVariables false

theorem Tryf.info5 : (Tryf.prog.info? 5).map (fun i => (i.zero, i.size, i.bytes)) = some (some (.int .u8 0), 1, 1) := by kernel_rfl

theorem empty_iff (s : ByteArray) : s.toList.isEmpty = decide (s.size = 0) := by
  rw [ByteArray.toList_eq]
  obtain ⟨d⟩ := s
  rw [Bool.eq_iff_iff]
  simp [ByteArray.size]

/-- zzWrittenLength. -/
theorem zzWL (s l : ByteArray) (w : World) (hs : s.size ≤ 1048576) (hl : l.size ≤ 1048576) : Calls Tryf.prog 17 #[.string s, .string l] w fun e w' => e = .returned (.int .i64 (wl s l : Nat)) ∧ w = w' := by
  by_cases h : s.size = 0
  · have he : s.toList.isEmpty = true := by rw [empty_iff]; simp [h]
    have hw : wl s l = l.size := by simp [wl, h]
    rw [hw]
    go_enter Tryf.func17, Tryf.ntmps17
    go_wp2
    go_ret
    exact ⟨rfl, rfl⟩
  · have he : s.toList.isEmpty = false := by rw [empty_iff]; simp [h]
    have hw : ((wl s l : Nat) : Int) = (s.size : Int) + 1 + (l.size : Int) := by simp [wl, h]
    rw [hw]
    go_enter Tryf.func17, Tryf.ntmps17
    go_wp2
    go_ret
    exact ⟨rfl, rfl⟩

/-- writtenLength. -/
theorem wLen (s l : ByteArray) (w : World) (hs : s.size ≤ 1048576) (hl : l.size ≤ 1048576) : Calls Tryf.prog 22 #[.agg #[.string s, .string l]] w fun e w' => e = .returned (.int .i64 (wl s l : Nat)) ∧ w' = w.alloc (.cells #[.string s, .string l] 52) := by
  by_cases h : s.size = 0
  · have he : s.toList.isEmpty = true := by rw [empty_iff]; simp [h]
    have hw : wl s l = l.size := by simp [wl, h]
    rw [hw]
    go_enter Tryf.func22, Tryf.ntmps22
    go_wp2
    go_ret
    exact ⟨rfl, rfl⟩
  · have he : s.toList.isEmpty = false := by rw [empty_iff]; simp [h]
    have hw : ((wl s l : Nat) : Int) = (s.size : Int) + 1 + (l.size : Int) := by simp [wl, h]
    rw [hw]
    go_enter Tryf.func22, Tryf.ntmps22
    go_wp2
    go_ret
    exact ⟨rfl, rfl⟩

/-- zzMin. -/
theorem zzMin (a b : Nat) (w : World) : Calls Tryf.prog 7 #[.int .i64 a, .int .i64 b] w fun e w' => e = .returned (.int .i64 (min a b : Nat)) ∧ w = w' := by
  by_cases h : a < b
  · have h' : (a : Int) < (b : Int) := by omega
    have hm : min a b = a := by omega
    rw [hm]
    go_enter Tryf.func7, Tryf.ntmps7
    go_wp2
    go_ret
    exact ⟨rfl, rfl⟩
  · have h' : ¬ (a : Int) < (b : Int) := by omega
    have hm : min a b = b := by omega
    rw [hm]
    go_enter Tryf.func7, Tryf.ntmps7
    go_wp2
    go_ret
    exact ⟨rfl, rfl⟩

/-- A slice of strings: its first n cells hold 'F 0', 'F 1', ..; of an empty one nothing is said. -/
def Strs (w : World) (a : Option Addr) (n : Nat) (F : Nat → ByteArray) : Prop :=
  n = 0 ∨ ∃ b o, a = some ⟨b, o, none⟩ ∧ ∀ j, j < n → w.cell? ⟨b, o + j, none⟩ = some (.string (F j))

theorem Strs.below {w w' : World} {a : Option Addr} {n : Nat} {F : Nat → ByteArray} (h : Strs w a n F) (hb : Below w.heap.size w w') : Strs w' a n F := by
  rcases h with h | ⟨b, o, ha, hc⟩
  · exact Or.inl h
  · exact Or.inr ⟨b, o, ha, fun j hj => cell_later hb (hc j hj)⟩
theorem Strs.at {w : World} {a : Option Addr} {n : Nat} {F : Nat → ByteArray} (h : Strs w a n F) (hn : 0 < n) : ∃ b o, a = some ⟨b, o, none⟩ ∧ ∀ j, j < n → w.cell? ⟨b, o + j, none⟩ = some (.string (F j)) := by
  rcases h with h | h
  · omega
  · exact h

def IsInt (v : Value) : Prop := ∃ z, v = .int .i64 z
def AnyInt (e : Ending) : Prop := ∃ x, e = .returned (.int .i64 x)

/-- zzStringsSize: it answers, and touches nothing. -/
theorem strsSize (a : Option Addr) (n c : Nat) (F : Nat → ByteArray) (r : Int) (w : World) (hn : n ≤ 1048576) (hF : Strs w a n F) (hs : ∀ j, j < n → (F j).size ≤ 1048576) :
    Calls Tryf.prog 18 #[.slice a n c, .int .i64 r] w fun e w' => AnyInt e ∧ w = w' := by
  have HF : Hid (Strs w a n F ∧ ∀ j, j < n → (F j).size ≤ 1048576) := ⟨hF, hs⟩
  clear hF hs
  go_enter Tryf.func18, Tryf.ntmps18
  go_wp2
  go_loop [5, 6] (fun t i => ∃ k : Nat, k ≤ n ∧ i = .int .i64 k ∧ IsInt t) (fun _ i => n - (intOf i).toNat)
  case atStart => exact ⟨0, Nat.zero_le _, rfl, 0, rfl⟩
  case round =>
    obtain ⟨k, hk, rfl, z, rfl⟩ := hrel
    by_cases hlt : k < n
    · obtain ⟨b, o, rfl, hc⟩ := HF.out.1.at (by omega)
      have c1 := hc k hlt
      have hsk := HF.out.2 k hlt
      clear hc HF
      go_wp2
      all_goals first
        | (go_ret; exact ⟨⟨_, rfl⟩, rfl⟩)
        | (go_round; (case rel => first | exact ⟨k + 1, by omega, by first | go_num | omega, _, rfl⟩ | ((repeat apply Exists.intro); exact ⟨⟨k + 1, by omega, by first | go_num | omega, _, rfl⟩, rfl⟩)); (case measure => simp [intOf]; omega))
    · go_wp2
      go_ret
      exact ⟨⟨_, rfl⟩, rfl⟩
end Go.Proofs.Qxb6608526aFmt
