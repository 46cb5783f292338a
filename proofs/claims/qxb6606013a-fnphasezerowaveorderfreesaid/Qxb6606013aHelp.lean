import Derived.Test.Qxb6606013aBuild
namespace Go.Proofs.Qxb6606013a
open Go.ChangeShapes Go.WideShapes Go.ChangeAt Go.RowKit
set_option linter.unusedVariables false

theorem Try.info5 : (Try.prog.info? 5).map (fun i => (i.zero, i.size, i.bytes)) = some (some (.int .u8 0), 1, 1) := by kernel_rfl
theorem Try.info3 : (Try.prog.info? 3).map (fun i => (i.zero, i.size, i.bytes)) = some (some (.int .i64 0), 1, 8) := by kernel_rfl

theorem copyU8_step {wr : World} {B k n : Nat} {f : Nat → Int} (h : wr.rowIs B 5 n (fun j => if j < k then .int .u8 (f j) else .int .u8 0)) :
    (wr.setCell ⟨B, k, none⟩ (.int .u8 (f k))).rowIs B 5 n (fun j => if j < k + 1 then .int .u8 (f j) else .int .u8 0) := by
  refine (h.set k (.int .u8 (f k))).congr fun i _ => ?_
  by_cases e : i = k
  · subst e; simp
  · by_cases l : i < k
    · simp [e, l, show i < k + 1 by omega]
    · simp [e, l, show ¬ i < k + 1 by omega]

/-- The copying function at a slice that is not nil. -/
theorem copyU8_some (x : Addr) (n c : Nat) (f : Nat → Int) (w : World) (hn : n ≤ 4096) (hr : Reads .u8 w (some x) n f) :
    Calls Try.prog 5 #[.slice (some x) n c] w fun e w' => e = .returned (.slice (some ⟨w.heap.size, 0, none⟩) n n) ∧
      w'.rowIs w.heap.size 5 n (fun j => .int .u8 (f j)) ∧ Below w.heap.size w w' := by
  have hmk := run_make_row' (P := Try.prog) 22 5 (.int .u8 0) 1 Try.underlying22 Try.info5 rfl .i64 .i64 n (by omega) (by omega)
  have hnil := @Lib.run_eql_slice_nil Try.prog
  have hmade := World.rowIs_made w (.int .u8 0) n 5
  have HR : Hid (Reads .u8 w (some x) n f) := hr
  clear hr
  go_enter Try.func5, Try.ntmps5
  go_wp2
  go_loopw [4] (fun i wr => ∃ k : Nat, k ≤ n ∧ i = .int .i64 k ∧ wr.rowIs w.heap.size 5 n (fun j => if j < k then .int .u8 (f j) else .int .u8 0) ∧ Below w.heap.size w wr) (fun i _ => n - (intOf i).toNat)
  case atStart => exact ⟨0, Nat.zero_le _, rfl, hmade.congr (fun i _ => by simp), (Below.refl _ _).alloc (Nat.le_refl _) _⟩
  case round =>
    obtain ⟨k, hk, rfl, hrow, hbel⟩ := hrel
    clear hmk hnil hmade
    by_cases hlt : k < n
    · obtain ⟨b, o, hx, hc⟩ := HR.out.at (by omega)
      obtain rfl := Option.some.inj hx
      clear hx
      have hck := hc k hlt
      have c1 : wr.cell? ⟨b, o + k, none⟩ = some (.int .u8 (f k)) := cell_later hbel hck
      have hbl : b < w.heap.size := World.block_lt_of_cell? w _ hck
      have c2 := hrow.cell (i := k) hlt
      have fz := hrow.frozen k
      have hnew := copyU8_step hrow
      have hb' := hbel.setCell (p := ⟨w.heap.size, k, none⟩) (Nat.le_refl _) (.int .u8 (f k))
      have REL : Hid ((wr.setCell ⟨w.heap.size, k, none⟩ (.int .u8 (f k))).rowIs w.heap.size 5 n (fun j => if j < k + 1 then .int .u8 (f j) else .int .u8 0) ∧ Below w.heap.size w (wr.setCell ⟨w.heap.size, k, none⟩ (.int .u8 (f k)))) := ⟨hnew, hb'⟩
      clear hc hck hrow hnew hb' hbel HR
      go_wp2
      go_roundw
      case rel => exact ⟨k + 1, by omega, by go_num, REL.out⟩
      case measure => simp [intOf]; omega
    · go_wp2
      go_ret
      refine ⟨rfl, hrow.congr fun i hi => ?_, hbel⟩
      simp [show i < k by omega]

/-- The copying function: nil or not. -/
theorem copyU8 (a : Option Addr) (n c : Nat) (f : Nat → Int) (w : World) (hn : n ≤ 4096) (h0 : a = none → n = 0 ∧ c = 0) (hr : Reads .u8 w a n f) :
    Calls Try.prog 5 #[.slice a n c] w fun e w' => ∃ a', e = .returned (.slice a' n n) ∧ Reads .u8 w' a' n f ∧ Below w.heap.size w w' := by
  cases a with
  | none =>
    obtain ⟨rfl, rfl⟩ := h0 rfl
    have hnil := @Lib.run_eql_slice_nil Try.prog
    go_enter Try.func5, Try.ntmps5
    go_wp2
    go_ret
    exact ⟨none, rfl, Or.inl rfl, Below.refl _ _⟩
  | some x =>
    refine (copyU8_some x n c f w hn hr).mono ?_
    rintro e w' ⟨rfl, hrow, hb⟩
    exact ⟨_, rfl, Or.inr ⟨w.heap.size, 0, rfl, fun j hj => by simpa using hrow.cell hj⟩, hb⟩

theorem copyInt_step {wr : World} {B k n : Nat} {f : Nat → Int} (h : wr.rowIs B 3 n (fun j => if j < k then .int .i64 (f j) else .int .i64 0)) :
    (wr.setCell ⟨B, k, none⟩ (.int .i64 (f k))).rowIs B 3 n (fun j => if j < k + 1 then .int .i64 (f j) else .int .i64 0) := by
  refine (h.set k (.int .i64 (f k))).congr fun i _ => ?_
  by_cases e : i = k
  · subst e; simp
  · by_cases l : i < k
    · simp [e, l, show i < k + 1 by omega]
    · simp [e, l, show ¬ i < k + 1 by omega]

/-- The copying function at a slice that is not nil. -/
theorem copyInt_some (x : Addr) (n c : Nat) (f : Nat → Int) (w : World) (hn : n ≤ 4096) (hr : Reads .i64 w (some x) n f) :
    Calls Try.prog 6 #[.slice (some x) n c] w fun e w' => e = .returned (.slice (some ⟨w.heap.size, 0, none⟩) n n) ∧
      w'.rowIs w.heap.size 3 n (fun j => .int .i64 (f j)) ∧ Below w.heap.size w w' := by
  have hmk := run_make_row' (P := Try.prog) 23 3 (.int .i64 0) 8 Try.underlying23 Try.info3 rfl .i64 .i64 n (by omega) (by omega)
  have hnil := @Lib.run_eql_slice_nil Try.prog
  have hmade := World.rowIs_made w (.int .i64 0) n 3
  have HR : Hid (Reads .i64 w (some x) n f) := hr
  clear hr
  go_enter Try.func6, Try.ntmps6
  go_wp2
  go_loopw [4] (fun i wr => ∃ k : Nat, k ≤ n ∧ i = .int .i64 k ∧ wr.rowIs w.heap.size 3 n (fun j => if j < k then .int .i64 (f j) else .int .i64 0) ∧ Below w.heap.size w wr) (fun i _ => n - (intOf i).toNat)
  case atStart => exact ⟨0, Nat.zero_le _, rfl, hmade.congr (fun i _ => by simp), (Below.refl _ _).alloc (Nat.le_refl _) _⟩
  case round =>
    obtain ⟨k, hk, rfl, hrow, hbel⟩ := hrel
    clear hmk hnil hmade
    by_cases hlt : k < n
    · obtain ⟨b, o, hx, hc⟩ := HR.out.at (by omega)
      obtain rfl := Option.some.inj hx
      clear hx
      have hck := hc k hlt
      have c1 : wr.cell? ⟨b, o + k, none⟩ = some (.int .i64 (f k)) := cell_later hbel hck
      have hbl : b < w.heap.size := World.block_lt_of_cell? w _ hck
      have c2 := hrow.cell (i := k) hlt
      have fz := hrow.frozen k
      have hnew := copyInt_step hrow
      have hb' := hbel.setCell (p := ⟨w.heap.size, k, none⟩) (Nat.le_refl _) (.int .i64 (f k))
      have REL : Hid ((wr.setCell ⟨w.heap.size, k, none⟩ (.int .i64 (f k))).rowIs w.heap.size 3 n (fun j => if j < k + 1 then .int .i64 (f j) else .int .i64 0) ∧ Below w.heap.size w (wr.setCell ⟨w.heap.size, k, none⟩ (.int .i64 (f k)))) := ⟨hnew, hb'⟩
      clear hc hck hrow hnew hb' hbel HR
      go_wp2
      go_roundw
      case rel => exact ⟨k + 1, by omega, by go_num, REL.out⟩
      case measure => simp [intOf]; omega
    · go_wp2
      go_ret
      refine ⟨rfl, hrow.congr fun i hi => ?_, hbel⟩
      simp [show i < k by omega]

/-- The copying function: nil or not. -/
theorem copyInt (a : Option Addr) (n c : Nat) (f : Nat → Int) (w : World) (hn : n ≤ 4096) (h0 : a = none → n = 0 ∧ c = 0) (hr : Reads .i64 w a n f) :
    Calls Try.prog 6 #[.slice a n c] w fun e w' => ∃ a', e = .returned (.slice a' n n) ∧ Reads .i64 w' a' n f ∧ Below w.heap.size w w' := by
  cases a with
  | none =>
    obtain ⟨rfl, rfl⟩ := h0 rfl
    have hnil := @Lib.run_eql_slice_nil Try.prog
    go_enter Try.func6, Try.ntmps6
    go_wp2
    go_ret
    exact ⟨none, rfl, Or.inl rfl, Below.refl _ _⟩
  | some x =>
    refine (copyInt_some x n c f w hn hr).mono ?_
    rintro e w' ⟨rfl, hrow, hb⟩
    exact ⟨_, rfl, Or.inr ⟨w.heap.size, 0, rfl, fun j hj => by simpa using hrow.cell hj⟩, hb⟩

/-- zzBytes_..: it answers, and touches nothing. -/
theorem bytes_any (s o : ByteArray) (l sd : Bool) (wv : Int) (dm : Bool) (ak ap aw an : Option Addr) (nk ck np cp nw cw na ca : Nat) (w : World) (h1 : s.size ≤ maxLen) (h2 : o.size ≤ maxLen) (h3 : nk ≤ maxLen) (h4 : np ≤ maxLen) (h5 : nw ≤ maxLen) (h6 : na ≤ maxLen) :
    Calls Try.prog 4 #[.string s, .string o, .bool l, .bool sd, .int .i64 wv, .bool dm, .slice ak nk ck, .slice ap np cp, .slice aw nw cw, .slice an na ca] w fun e w' => ∃ b, e = .returned (.bool b) ∧ w = w' := by
  unfold maxLen at h1 h2 h3 h4 h5 h6
  go_enter Try.func4, Try.ntmps4
  go_wp2
  all_goals (go_ret; exact ⟨_, rfl, rfl⟩)

end Go.Proofs.Qxb6606013a
