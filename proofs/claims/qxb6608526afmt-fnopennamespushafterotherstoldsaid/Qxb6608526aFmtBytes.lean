import Derived.Test.Qxb6608526aFmtSmall
namespace Go.Proofs.Qxb6608526aFmt
open Go.ChangeShapes Go.WideShapes Go.ChangeAt Go.RowKit
set_option linter.unusedVariables false

def BytesOut (n1 n2 : Nat) (F1 F2 : Nat → ByteArray) (e : Ending) : Prop := ∃ b, e = .returned (.bool b) ∧ (b = true → n1 + sumLen F1 n1 + n2 + sumLen F2 n2 ≤ 1048576)

theorem bytes5 (a1 a2 : Option Addr) (n1 c1 n2 c2 : Nat) (F1 F2 : Nat → ByteArray) (w : World) (h1 : n1 ≤ maxLen) (h2 : n2 ≤ maxLen) (hF1 : Strs w a1 n1 F1) (hF2 : Strs w a2 n2 F2) (hs1 : ∀ j, j < n1 → (F1 j).size ≤ maxLen) (hs2 : ∀ j, j < n2 → (F2 j).size ≤ maxLen) :
    Calls Tryf.prog 5 #[.slice a1 n1 c1, .slice a2 n2 c2] w fun e w' => BytesOut n1 n2 F1 F2 e ∧ w = w' := by
  have HF : Hid (Strs w a1 n1 F1 ∧ Strs w a2 n2 F2 ∧ (∀ j, j < n1 → (F1 j).size ≤ maxLen) ∧ (∀ j, j < n2 → (F2 j).size ≤ maxLen)) := ⟨hF1, hF2, hs1, hs2⟩
  clear hF1 hF2 hs1 hs2
  unfold maxLen at h1 h2
  go_enter Tryf.func5, Tryf.ntmps5
  go_wp2
  all_goals try (go_ret; exact ⟨⟨false, rfl, fun h => by cases h⟩, rfl⟩)
  go_loop [5, 6] (fun t i => ∃ k : Nat, k ≤ n1 ∧ i = .int .i64 k ∧ t = .int .i64 ((n1 + sumLen F1 k : Nat) : Int) ∧ n1 + sumLen F1 k ≤ 1048576) (fun _ i => n1 - (intOf i).toNat)
  case atStart => exact ⟨0, Nat.zero_le _, rfl, by simp [sumLen], by simp only [sumLen]; omega⟩
  case round =>
    obtain ⟨k, hk, rfl, rfl, hb⟩ := hrel
    by_cases hlt : k < n1
    · obtain ⟨b, o, rfl, hc⟩ := HF.out.1.at (by omega)
      have q1 := hc k hlt
      have hsk := HF.out.2.2.1 k hlt
      unfold maxLen at hsk
      clear hc HF
      have hsum : sumLen F1 (k + 1) = sumLen F1 k + (F1 k).size := rfl
      have HS : Hid (sumLen F1 (k + 1) = sumLen F1 k + (F1 k).size) := hsum
      clear hsum
      go_wp2
      all_goals first
        | (go_ret; exact ⟨⟨false, rfl, fun h => by cases h⟩, rfl⟩)
        | (go_round; (case rel => first | exact ⟨k + 1, by omega, by first | go_num | omega, by rw [HS.out]; go_num, by rw [HS.out]; omega⟩ | ((repeat apply Exists.intro); exact ⟨⟨k + 1, by omega, by first | go_num | omega, by rw [HS.out]; go_num, by rw [HS.out]; omega⟩, rfl⟩)); (case measure => simp [intOf]; omega))
    · obtain rfl : n1 = k := by omega
      go_wp2
      all_goals try (go_ret; exact ⟨⟨false, rfl, fun h => by cases h⟩, rfl⟩)
      go_loop [5, 7] (fun t i => ∃ k : Nat, k ≤ n2 ∧ i = .int .i64 k ∧ t = .int .i64 ((n1 + sumLen F1 n1 + n2 + sumLen F2 k : Nat) : Int) ∧ n1 + sumLen F1 n1 + n2 + sumLen F2 k ≤ 1048576) (fun _ i => n2 - (intOf i).toNat)
      case atStart => exact ⟨0, Nat.zero_le _, rfl, by simp only [sumLen]; go_num, by simp only [sumLen]; omega⟩
      case round =>
        obtain ⟨k, hk, rfl, rfl, hb⟩ := hrel
        by_cases hlt : k < n2
        · obtain ⟨b, o, rfl, hc⟩ := HF.out.2.1.at (by omega)
          have q1 := hc k hlt
          have hsk := HF.out.2.2.2 k hlt
          unfold maxLen at hsk
          clear hc HF
          have hsum : sumLen F2 (k + 1) = sumLen F2 k + (F2 k).size := rfl
          have HS : Hid (sumLen F2 (k + 1) = sumLen F2 k + (F2 k).size) := hsum
          clear hsum
          go_wp2
          all_goals first
            | (go_ret; exact ⟨⟨false, rfl, fun h => by cases h⟩, rfl⟩)
            | (go_round; (case rel => first | exact ⟨k + 1, by omega, by first | go_num | omega, by rw [HS.out]; go_num, by rw [HS.out]; omega⟩ | ((repeat apply Exists.intro); exact ⟨⟨k + 1, by omega, by first | go_num | omega, by rw [HS.out]; go_num, by rw [HS.out]; omega⟩, rfl⟩)); (case measure => simp [intOf]; omega))
        · obtain rfl : n2 = k := by omega
          go_wp2
          go_ret
          exact ⟨⟨true, rfl, fun _ => hb⟩, rfl⟩

theorem bytes16 (a1 a2 : Option Addr) (n1 c1 n2 c2 : Nat) (x : Int) (F1 F2 : Nat → ByteArray) (w : World) (h1 : n1 ≤ maxLen) (h2 : n2 ≤ maxLen) (hF1 : Strs w a1 n1 F1) (hF2 : Strs w a2 n2 F2) (hs1 : ∀ j, j < n1 → (F1 j).size ≤ maxLen) (hs2 : ∀ j, j < n2 → (F2 j).size ≤ maxLen) :
    Calls Tryf.prog 16 #[.slice a1 n1 c1, .slice a2 n2 c2, .int .i64 x] w fun e w' => BytesOut n1 n2 F1 F2 e ∧ w = w' := by
  have HF : Hid (Strs w a1 n1 F1 ∧ Strs w a2 n2 F2 ∧ (∀ j, j < n1 → (F1 j).size ≤ maxLen) ∧ (∀ j, j < n2 → (F2 j).size ≤ maxLen)) := ⟨hF1, hF2, hs1, hs2⟩
  clear hF1 hF2 hs1 hs2
  unfold maxLen at h1 h2
  go_enter Tryf.func16, Tryf.ntmps16
  go_wp2
  all_goals try (go_ret; exact ⟨⟨false, rfl, fun h => by cases h⟩, rfl⟩)
  go_loop [7, 8] (fun t i => ∃ k : Nat, k ≤ n1 ∧ i = .int .i64 k ∧ t = .int .i64 ((n1 + sumLen F1 k : Nat) : Int) ∧ n1 + sumLen F1 k ≤ 1048576) (fun _ i => n1 - (intOf i).toNat)
  case atStart => exact ⟨0, Nat.zero_le _, rfl, by simp [sumLen], by simp only [sumLen]; omega⟩
  case round =>
    obtain ⟨k, hk, rfl, rfl, hb⟩ := hrel
    by_cases hlt : k < n1
    · obtain ⟨b, o, rfl, hc⟩ := HF.out.1.at (by omega)
      have q1 := hc k hlt
      have hsk := HF.out.2.2.1 k hlt
      unfold maxLen at hsk
      clear hc HF
      have hsum : sumLen F1 (k + 1) = sumLen F1 k + (F1 k).size := rfl
      have HS : Hid (sumLen F1 (k + 1) = sumLen F1 k + (F1 k).size) := hsum
      clear hsum
      go_wp2
      all_goals first
        | (go_ret; exact ⟨⟨false, rfl, fun h => by cases h⟩, rfl⟩)
        | (go_round; (case rel => first | exact ⟨k + 1, by omega, by first | go_num | omega, by rw [HS.out]; go_num, by rw [HS.out]; omega⟩ | ((repeat apply Exists.intro); exact ⟨⟨k + 1, by omega, by first | go_num | omega, by rw [HS.out]; go_num, by rw [HS.out]; omega⟩, rfl⟩)); (case measure => simp [intOf]; omega))
    · obtain rfl : n1 = k := by omega
      go_wp2
      all_goals try (go_ret; exact ⟨⟨false, rfl, fun h => by cases h⟩, rfl⟩)
      go_loop [7, 9] (fun t i => ∃ k : Nat, k ≤ n2 ∧ i = .int .i64 k ∧ t = .int .i64 ((n1 + sumLen F1 n1 + n2 + sumLen F2 k : Nat) : Int) ∧ n1 + sumLen F1 n1 + n2 + sumLen F2 k ≤ 1048576) (fun _ i => n2 - (intOf i).toNat)
      case atStart => exact ⟨0, Nat.zero_le _, rfl, by simp only [sumLen]; go_num, by simp only [sumLen]; omega⟩
      case round =>
        obtain ⟨k, hk, rfl, rfl, hb⟩ := hrel
        by_cases hlt : k < n2
        · obtain ⟨b, o, rfl, hc⟩ := HF.out.2.1.at (by omega)
          have q1 := hc k hlt
          have hsk := HF.out.2.2.2 k hlt
          unfold maxLen at hsk
          clear hc HF
          have hsum : sumLen F2 (k + 1) = sumLen F2 k + (F2 k).size := rfl
          have HS : Hid (sumLen F2 (k + 1) = sumLen F2 k + (F2 k).size) := hsum
          clear hsum
          go_wp2
          all_goals first
            | (go_ret; exact ⟨⟨false, rfl, fun h => by cases h⟩, rfl⟩)
            | (go_round; (case rel => first | exact ⟨k + 1, by omega, by first | go_num | omega, by rw [HS.out]; go_num, by rw [HS.out]; omega⟩ | ((repeat apply Exists.intro); exact ⟨⟨k + 1, by omega, by first | go_num | omega, by rw [HS.out]; go_num, by rw [HS.out]; omega⟩, rfl⟩)); (case measure => simp [intOf]; omega))
        · obtain rfl : n2 = k := by omega
          go_wp2
          go_ret
          exact ⟨⟨true, rfl, fun _ => hb⟩, rfl⟩

/-- zzRoomAfter: it answers, and touches nothing. -/
theorem room (a1 a2 : Option Addr) (n1 c1 n2 c2 : Nat) (F1 F2 : Nat → ByteArray) (w : World) (h1 : n1 ≤ 1048576) (h2 : n2 ≤ 1048576) (hF1 : Strs w a1 n1 F1) (hF2 : Strs w a2 n2 F2) (hs1 : ∀ j, j < n1 → (F1 j).size ≤ 1048576) (hs2 : ∀ j, j < n2 → (F2 j).size ≤ 1048576) :
    Calls Tryf.prog 6 #[.slice a1 n1 c1, .slice a2 n2 c2] w fun e w' => AnyInt e ∧ w = w' := by
  have HF : Hid (Strs w a1 n1 F1 ∧ Strs w a2 n2 F2 ∧ (∀ j, j < n1 → (F1 j).size ≤ 1048576) ∧ (∀ j, j < n2 → (F2 j).size ≤ 1048576)) := ⟨hF1, hF2, hs1, hs2⟩
  clear hF1 hF2 hs1 hs2
  go_enter Tryf.func6, Tryf.ntmps6
  go_wp2_with fail
  refine (strsSize a1 n1 c1 F1 _ w h1 HF.out.1 HF.out.2.2.1).mono ?_
  rintro e w' ⟨⟨x, rfl⟩, rfl⟩
  go_wp2_with fail
  all_goals first | (go_ret; exact ⟨⟨_, rfl⟩, rfl⟩) | skip
  refine (strsSize a2 n2 c2 F2 _ w h2 HF.out.2.1 HF.out.2.2.2).mono ?_
  rintro e w' ⟨⟨y, rfl⟩, rfl⟩
  go_wp2_with fail
  all_goals (go_ret; exact ⟨⟨_, rfl⟩, rfl⟩)
end Go.Proofs.Qxb6608526aFmt
