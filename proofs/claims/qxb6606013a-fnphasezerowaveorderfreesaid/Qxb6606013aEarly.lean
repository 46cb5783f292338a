import Derived.Test.Qxb6606013aMems
namespace Go.Proofs.Qxb6606013a
open Go.ChangeShapes Go.WideShapes Go.ChangeAt Go.RowKit
set_option linter.unusedVariables false

theorem len_of {a b : Nat} (h : ((a : Int) != (b : Int)) = false) : a = b := by
  simp at h; omega
theorem prep_of {s : ByteArray} (h : (!s.toList == [112, 114, 101, 112, 97, 114, 105, 110, 103]) = false) : s = sPrep := by
  have h' : s.toList = [112, 114, 101, 112, 97, 114, 105, 110, 103] := by simpa using h
  rw [ByteArray.toList_eq] at h'
  obtain ⟨d⟩ := s
  have : d = #[112, 114, 101, 112, 97, 114, 105, 110, 103] := Array.toList_inj.1 h'
  rw [this]; rfl

set_option maxRecDepth 100000 in
set_option maxHeartbeats 1000000 in
/-- One of the tests ahead of the first loop answers. -/
theorem early (s o : ByteArray) (l sd : Bool) (wv : Int) (dm : Bool) (ak ap aw an : Option Addr) (nk ck np cp nw cw na ca : Nat) (w : World) (h1 : s.size ≤ maxLen) (h2 : o.size ≤ maxLen) (h3 : nk ≤ maxLen) (h4 : np ≤ maxLen) (h5 : nw ≤ maxLen) (h6 : na ≤ maxLen)
    (h : ¬ (nk ≤ 4096 ∧ np = nk ∧ nw = nk ∧ na = nk ∧ s = sPrep)) :
    Calls Try.prog 3 #[.string s, .string o, .bool l, .bool sd, .int .i64 wv, .bool dm, .slice ak nk ck, .slice ap np cp, .slice aw nw cw, .slice an na ca] w fun e w' => e = .returned (.bool true) ∧ Below w.heap.size w w' := by
  have HB : Hid (∀ w, Calls Try.prog 4 #[.string s, .string o, .bool l, .bool sd, .int .i64 wv, .bool dm, .slice ak nk ck, .slice ap np cp, .slice aw nw cw, .slice an na ca] w fun e w' => ∃ b, e = .returned (.bool b) ∧ w = w') :=
    fun w => bytes_any s o l sd wv dm ak ap aw an nk ck np cp nw cw na ca w h1 h2 h3 h4 h5 h6
  have HH : Hid (¬ (nk ≤ 4096 ∧ np = nk ∧ nw = nk ∧ na = nk ∧ s = sPrep)) := h
  clear h
  unfold maxLen at h1 h2 h3 h4 h5 h6
  go_enter Try.func3, Try.ntmps3
  go_wp2_with (go_at_call 4; refine (HB.out _).mono ?_; rintro e w' ⟨b, rfl, rfl⟩)
  all_goals first | (go_ret; exact ⟨rfl, Below.refl _ _⟩) | (exfalso; exact HH.out ⟨by omega, by omega, by omega, len_of (by assumption), prep_of (by assumption)⟩)
end Go.Proofs.Qxb6606013a
