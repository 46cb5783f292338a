import Derived.Test.Qxb6608527aRows
import Derived.WalkKit
import Derived.ProofKit
import Derived.OpenShut
import Derived.WalkSpells
import Derived.WalkSmall
import Derived.WalkLawsBesides
import Derived.Handy
import Derived.Deep.OwnRows
import Derived.Deep.QuietTactic
import Derived.BigQuiet
import Derived.Deep.Light
import Derived.Deep.RegionHeld3
import Derived.Deep.MidRow
namespace Go.Proofs.Qxb6608527a
open Go.ChangeShapes Go.WideShapes Go.ChangeAt Go.RowKit
set_option linter.unusedVariables false

/-- A slice of strings: its first n cells hold 'F 0', 'F 1', ..; of an empty one nothing is said. -/
def Strs (w : World) (a : Option Addr) (n : Nat) (F : Nat → ByteArray) : Prop :=
  n = 0 ∨ ∃ b o, a = some ⟨b, o, none⟩ ∧ ∀ j, j < n → w.cell? ⟨b, o + j, none⟩ = some (.string (F j))

theorem Strs.below {w w' : World} {a : Option Addr} {n : Nat} {F : Nat → ByteArray} (h : Strs w a n F) (hb : Below w.heap.size w w') : Strs w' a n F := by
  rcases h with h | ⟨b, o, ha, hc⟩
  · exact Or.inl h
  · exact Or.inr ⟨b, o, ha, fun j hj => cell_later hb (hc j hj)⟩
theorem Strs.at {w : World} {a : Option Addr} {n : Nat} {F : Nat → ByteArray} (h : Strs w a n F) (hn : 0 < n) : ∃ b o, a = some ⟨b, o, none⟩ ∧ ∀ j, j < n → w.cell? ⟨b, o + j, none⟩ = some (.string (F j)) := by
  rcases h with h | h
  · omega
  · exact h

def IsInt (v : Value) : Prop := ∃ z, v = .int .i64 z
def AnyBool (e : Ending) : Prop := ∃ b, e = .returned (.bool b)

/-- "pending" and "delivered". -/
def pend : ByteArray := ⟨#[112, 101, 110, 100, 105, 110, 103]⟩
def dlv : ByteArray := ⟨#[100, 101, 108, 105, 118, 101, 114, 101, 100]⟩
theorem dlv_ne : dlv ≠ pend := by decide
theorem pend_beq (s : ByteArray) : (s.toList == [112, 101, 110, 100, 105, 110, 103]) = decide (s = pend) := by
  rw [ByteArray.toList_eq]
  obtain ⟨⟨d⟩⟩ := s
  rw [Bool.eq_iff_iff]
  simp [pend]

/-- The places of the pending among the first k. -/
def pl (S : Nat → ByteArray) : Nat → List Nat
  | 0 => []
  | k + 1 => pl S k ++ if S k = pend then [k] else []

/-- The address of recipient i. -/
def adr (n : Nat) (F : Nat → ByteArray) (i : Nat) : ByteArray := if i < n then F i else ⟨#[]⟩

/-- zzBytes: it answers, and touches nothing. -/
theorem bytes9 (a1 a2 : Option Addr) (n1 c1 n2 c2 : Nat) (F1 F2 : Nat → ByteArray) (w : World) (h1 : n1 ≤ maxLen) (h2 : n2 ≤ maxLen) (hF1 : Strs w a1 n1 F1) (hF2 : Strs w a2 n2 F2) :
    Calls Try.prog 9 #[.slice a1 n1 c1, .slice a2 n2 c2] w fun e w' => AnyBool e ∧ w = w' := by
  have HF : Hid (Strs w a1 n1 F1 ∧ Strs w a2 n2 F2) := ⟨hF1, hF2⟩
  clear hF1 hF2
  unfold maxLen at h1 h2
  go_enter Try.func9, Try.ntmps9
  go_wp2
  all_goals try (go_ret; exact ⟨⟨_, rfl⟩, rfl⟩)
  go_loop [5, 6] (fun t i => ∃ k : Nat, k ≤ n1 ∧ i = .int .i64 k ∧ IsInt t) (fun _ i => n1 - (intOf i).toNat)
  case atStart => exact ⟨0, Nat.zero_le _, rfl, _, rfl⟩
  case round =>
    obtain ⟨k, hk, rfl, z, rfl⟩ := hrel
    by_cases hlt : k < n1
    · obtain ⟨b, o, rfl, hc⟩ := HF.out.1.at (by omega)
      have q1 := hc k hlt
      clear hc HF
      go_wp2
      all_goals first
        | (go_ret; exact ⟨⟨_, rfl⟩, rfl⟩)
        | (go_round; (case rel => first | exact ⟨k + 1, by omega, by first | go_num | omega, _, rfl⟩ | ((repeat apply Exists.intro); exact ⟨⟨k + 1, by omega, by first | go_num | omega, _, rfl⟩, rfl⟩)); (case measure => simp [intOf]; omega))
    · obtain rfl : n1 = k := by omega
      go_wp2
      all_goals try (go_ret; exact ⟨⟨_, rfl⟩, rfl⟩)
      go_loop [5, 7] (fun t i => ∃ k : Nat, k ≤ n2 ∧ i = .int .i64 k ∧ IsInt t) (fun _ i => n2 - (intOf i).toNat)
      case atStart => exact ⟨0, Nat.zero_le _, rfl, _, rfl⟩
      case round =>
        obtain ⟨k, hk, rfl, z, rfl⟩ := hrel
        by_cases hlt : k < n2
        · obtain ⟨b, o, rfl, hc⟩ := HF.out.2.at (by omega)
          have q1 := hc k hlt
          clear hc HF
          go_wp2
          all_goals first
            | (go_ret; exact ⟨⟨_, rfl⟩, rfl⟩)
            | (go_round; (case rel => first | exact ⟨k + 1, by omega, by first | go_num | omega, _, rfl⟩ | ((repeat apply Exists.intro); exact ⟨⟨k + 1, by omega, by first | go_num | omega, _, rfl⟩, rfl⟩)); (case measure => simp [intOf]; omega))
        · obtain rfl : n2 = k := by omega
          go_wp2
          go_ret
          exact ⟨⟨_, rfl⟩, rfl⟩

/-- sizeOK: it answers, and touches nothing. -/
theorem size10 (a1 a2 : Option Addr) (n1 c1 n2 c2 : Nat) (F1 F2 : Nat → ByteArray) (w : World) (h1 : n1 ≤ 65536) (h2 : n2 ≤ 65536) (hF1 : Strs w a1 n1 F1) (hF2 : Strs w a2 n2 F2) :
    Calls Try.prog 10 #[.slice a1 n1 c1, .slice a2 n2 c2] w fun e w' => AnyBool e ∧ w = w' := by
  have HF : Hid (Strs w a1 n1 F1 ∧ Strs w a2 n2 F2) := ⟨hF1, hF2⟩
  clear hF1 hF2
  go_enter Try.func10, Try.ntmps10
  go_wp2
  go_loop [5, 6] (fun t i => ∃ k : Nat, k ≤ n1 ∧ i = .int .i64 k ∧ IsInt t) (fun _ i => n1 - (intOf i).toNat)
  case atStart => exact ⟨0, Nat.zero_le _, rfl, _, rfl⟩
  case round =>
    obtain ⟨k, hk, rfl, z, rfl⟩ := hrel
    by_cases hlt : k < n1
    · obtain ⟨b, o, rfl, hc⟩ := HF.out.1.at (by omega)
      have q1 := hc k hlt
      clear hc HF
      go_wp2
      all_goals first
        | (go_ret; exact ⟨⟨_, rfl⟩, rfl⟩)
        | (go_round; (case rel => first | exact ⟨k + 1, by omega, by first | go_num | omega, _, rfl⟩ | ((repeat apply Exists.intro); exact ⟨⟨k + 1, by omega, by first | go_num | omega, _, rfl⟩, rfl⟩)); (case measure => simp [intOf]; omega))
    · obtain rfl : n1 = k := by omega
      go_wp2
      go_loop [5, 7] (fun t i => ∃ k : Nat, k ≤ n2 ∧ i = .int .i64 k ∧ IsInt t) (fun _ i => n2 - (intOf i).toNat)
      case atStart => exact ⟨0, Nat.zero_le _, rfl, _, rfl⟩
      case round =>
        obtain ⟨k, hk, rfl, z, rfl⟩ := hrel
        by_cases hlt : k < n2
        · obtain ⟨b, o, rfl, hc⟩ := HF.out.2.at (by omega)
          have q1 := hc k hlt
          clear hc HF
          go_wp2
          all_goals first
            | (go_ret; exact ⟨⟨_, rfl⟩, rfl⟩)
            | (go_round; (case rel => first | exact ⟨k + 1, by omega, by first | go_num | omega, _, rfl⟩ | ((repeat apply Exists.intro); exact ⟨⟨k + 1, by omega, by first | go_num | omega, _, rfl⟩, rfl⟩)); (case measure => simp [intOf]; omega))
        · obtain rfl : n2 = k := by omega
          go_wp2
          go_ret
          exact ⟨⟨_, rfl⟩, rfl⟩

/-- addrAt. -/
theorem addrAt (a : Option Addr) (n c i : Nat) (F : Nat → ByteArray) (w : World) (hF : Strs w a n F) :
    Calls Try.prog 14 #[.slice a n c, .int .i64 i] w fun e w' => e = .returned (.string (adr n F i)) ∧ w = w' := by
  by_cases h : i < n
  · obtain ⟨b, o, rfl, hc⟩ := hF.at (by omega)
    have q := hc i h
    have i1 : (0 : Int) ≤ (i : Int) := by omega
    have i2 : (i : Int) < (n : Int) := by omega
    rw [show adr n F i = F i from by simp [adr, h]]
    clear hc hF
    go_enter Try.func14, Try.ntmps14
    go_wp2
    go_ret
    exact ⟨rfl, rfl⟩
  · have i2 : ¬ (i : Int) < (n : Int) := by omega
    rw [show adr n F i = ⟨#[]⟩ from by simp [adr, h]]
    clear hF
    go_enter Try.func14, Try.ntmps14
    go_wp2
    go_ret
    exact ⟨rfl, rfl⟩

theorem pl_length_le (S : Nat → ByteArray) : ∀ k, (pl S k).length ≤ k
  | 0 => Nat.le_refl _
  | k + 1 => by
    have := pl_length_le S k
    simp only [pl, List.length_append]
    split <;> simp <;> omega

/-- countPending. -/
theorem countP (a : Option Addr) (n c : Nat) (F : Nat → ByteArray) (w : World) (hn : n ≤ 65536) (hF : Strs w a n F) :
    Calls Try.prog 13 #[.slice a n c] w fun e w' => e = .returned (.int .i64 ((pl F n).length : Nat)) ∧ w = w' := by
  have HF : Hid (Strs w a n F) := hF
  clear hF
  go_enter Try.func13, Try.ntmps13
  go_wp2
  go_loop [3, 4] (fun t i => ∃ k : Nat, k ≤ n ∧ i = .int .i64 k ∧ t = .int .i64 ((pl F k).length : Nat)) (fun _ i => n - (intOf i).toNat)
  case atStart => exact ⟨0, Nat.zero_le _, rfl, rfl⟩
  case round =>
    obtain ⟨k, hk, rfl, rfl⟩ := hrel
    have hle := pl_length_le F k
    by_cases hlt : k < n
    · obtain ⟨b, o, rfl, hc⟩ := HF.out.at (by omega)
      have q1 := hc k hlt
      have i1 : (0 : Int) ≤ (k : Int) := by omega
      have i2 : (k : Int) < (n : Int) := by omega
      clear hc HF
      by_cases hp : F k = pend
      · have HL : Hid ((pl F (k + 1)).length = (pl F k).length + 1) := by show _ = _; simp [pl, hp]
        have hd : ((F k).toList == [112, 101, 110, 100, 105, 110, 103]) = true := by rw [pend_beq]; simp [hp]
        clear hp
        go_wp2
        go_round
        case rel => first | exact ⟨k + 1, by omega, by go_num, by rw [HL.out]; go_num⟩ | ((repeat apply Exists.intro); exact ⟨⟨k + 1, by omega, by go_num, by rw [HL.out]; go_num⟩, rfl⟩)
        case measure => simp [intOf]; omega
      · have HL : Hid ((pl F (k + 1)).length = (pl F k).length) := by show _ = _; simp [pl, hp]
        have hd : ((F k).toList == [112, 101, 110, 100, 105, 110, 103]) = false := by rw [pend_beq]; simp [hp]
        clear hp
        go_wp2
        go_round
        case rel => first | exact ⟨k + 1, by omega, by go_num, by rw [HL.out]⟩ | ((repeat apply Exists.intro); exact ⟨⟨k + 1, by omega, by go_num, by rw [HL.out]⟩, rfl⟩)
        case measure => simp [intOf]; omega
    · obtain rfl : n = k := by omega
      go_wp2
      go_ret
      exact ⟨rfl, rfl⟩
end Go.Proofs.Qxb6608527a
