import Derived.Test.Qxb6605894aRows
import Derived.WalkKit
import Derived.ProofKit
import Derived.OpenShut
import Derived.WalkSpells
import Derived.Handy
import Derived.Deep.OwnRows
import Derived.Deep.QuietTactic
import Derived.BigQuiet
namespace Go.Proofs.Qxb6605894a
open Go.ChangeShapes Go.WideShapes Go.ChangeAt Go.RowKit
set_option linter.unusedVariables false

theorem Try.info5 : (Try.prog.info? 5).map (fun i => (i.zero, i.size, i.bytes)) = some (some (.int .u8 0), 1, 1) := by kernel_rfl

/-- A slice's first n cells hold the numbers 'f 0', 'f 1', ..; of an empty one nothing is said. -/
def Reads (w : World) (a : Option Addr) (n : Nat) (f : Nat → Int) : Prop :=
  n = 0 ∨ ∃ b o, a = some ⟨b, o, none⟩ ∧ ∀ j, j < n → w.cell? ⟨b, o + j, none⟩ = some (.int .u8 (f j))

/-- zzSameBytesB1 over two slices of one length that hold the same numbers: true; it only reads. -/
theorem same_true (a b : Option Addr) (n ca cb : Nat) (f : Nat → Int) (w : World) (hn : n ≤ 1048576) (ha : Reads w a n f) (hb : Reads w b n f) :
    Calls Try.prog 14 #[.slice a n ca, .slice b n cb] w fun e w' => e = .returned (.bool true) ∧ ∃ m, w' = w.drewN m := by
  rcases Nat.eq_zero_or_pos n with h0 | hpos
  · subst h0
    go_enter Try.func14, Try.ntmps14
    go_wp2
    refine wp_loop_rounds 1 ?_
    rw [rounds_succ]
    go_wp2
    go_ret
    exact ⟨rfl, 0, rfl⟩
  · obtain ⟨b1, o1, rfl, h1⟩ : ∃ b o, a = some ⟨b, o, none⟩ ∧ ∀ j, j < n → w.cell? ⟨b, o + j, none⟩ = some (.int .u8 (f j)) := by
      rcases ha with h | h
      · omega
      · exact h
    obtain ⟨b2, o2, rfl, h2⟩ : ∃ b' o, b = some ⟨b', o, none⟩ ∧ ∀ j, j < n → w.cell? ⟨b', o + j, none⟩ = some (.int .u8 (f j)) := by
      rcases hb with h | h
      · omega
      · exact h
    go_enter Try.func14, Try.ntmps14
    go_wp2
    go_loopw [5] (fun i wr => ∃ k : Nat, k ≤ n ∧ i = .int .i64 k ∧ ∃ m, wr = w.drewN m) (fun i _ => n - (intOf i).toNat)
    case atStart => exact ⟨0, Nat.zero_le _, rfl, 0, rfl⟩
    case round =>
      obtain ⟨k, hk, rfl, m, rfl⟩ := hrel
      by_cases hlt : k < n
      · have c1 := h1 k hlt
        have c2 := h2 k hlt
        have i1 : (k : Int) < (n : Int) := by omega
        clear h1 h2
        go_wp2
        go_quiet (fail)
        go_wp2
        go_roundw
        case rel => exact ⟨k + 1, by omega, by go_num, _, rfl⟩
        case measure => simp [intOf]; omega
      · clear h1 h2
        go_wp2
        go_ret
        exact ⟨rfl, _, rfl⟩

/-- zzCloneBytesB1 at nil. -/
theorem clone_nil (w : World) : Calls Try.prog 8 #[.slice none 0 0] w fun e w' => e = .returned (.slice none 0 0) ∧ w' = w := by
  have hnil := @Lib.run_eql_slice_nil Try.prog
  go_enter Try.func8, Try.ntmps8
  go_wp2
  go_ret
  exact ⟨rfl, rfl⟩

/-- One round of the copying loop, on the new row. -/
theorem clone_step {wr : World} {B k n : Nat} {f : Nat → Int} (h : wr.rowIs B 5 n (fun j => if j < k then .int .u8 (f j) else .int .u8 0)) :
    (wr.setCell ⟨B, k, none⟩ (.int .u8 (f k))).rowIs B 5 n (fun j => if j < k + 1 then .int .u8 (f j) else .int .u8 0) := by
  refine (h.set k (.int .u8 (f k))).congr fun i _ => ?_
  by_cases e : i = k
  · subst e; simp
  · by_cases l : i < k
    · simp [e, l, show i < k + 1 by omega]
    · simp [e, l, show ¬ i < k + 1 by omega]

/-- zzCloneBytesB1 at a slice that is not nil: a new block at the heap's end with the same numbers. -/
theorem clone_some (x : Addr) (n c : Nat) (f : Nat → Int) (w : World) (hn : n ≤ 1048576) (hr : Reads w (some x) n f) :
    Calls Try.prog 8 #[.slice (some x) n c] w fun e w' => e = .returned (.slice (some ⟨w.heap.size, 0, none⟩) n n) ∧
      w'.rowIs w.heap.size 5 n (fun j => .int .u8 (f j)) ∧ w'.heap.size = w.heap.size + 1 ∧ Below w.heap.size w w' := by
  have hmk := run_make_row' (P := Try.prog) 24 5 (.int .u8 0) 1 Try.underlying24 Try.info5 rfl .i64 .i64 n (by omega) (by omega)
  have hnil := @Lib.run_eql_slice_nil Try.prog
  have hmade := World.rowIs_made w (.int .u8 0) n 5
  have HR : Hid (Reads w (some x) n f) := hr
  clear hr
  go_enter Try.func8, Try.ntmps8
  go_wp2
  go_loopw [4] (fun i wr => ∃ k : Nat, k ≤ n ∧ i = .int .i64 k ∧ wr.rowIs w.heap.size 5 n (fun j => if j < k then .int .u8 (f j) else .int .u8 0) ∧ wr.heap.size = w.heap.size + 1 ∧ Below w.heap.size w wr) (fun i _ => n - (intOf i).toNat)
  case atStart => exact ⟨0, Nat.zero_le _, rfl, hmade.congr (fun i _ => by simp), by simp, (Below.refl _ _).alloc (Nat.le_refl _) _⟩
  case round =>
    obtain ⟨k, hk, rfl, hrow, hsz, hbel⟩ := hrel
    clear hmk hnil hmade
    by_cases hlt : k < n
    · obtain ⟨b, o, hx, hc⟩ : ∃ b o, some x = some ⟨b, o, none⟩ ∧ ∀ j, j < n → w.cell? ⟨b, o + j, none⟩ = some (.int .u8 (f j)) := by
        rcases HR.out with h | h
        · omega
        · exact h
      obtain rfl := Option.some.inj hx
      clear hx
      have hck := hc k hlt
      have hbl : b < w.heap.size := World.block_lt_of_cell? w _ hck
      have c1 : wr.cell? ⟨b, o + k, none⟩ = some (.int .u8 (f k)) := (hbel.cell (p := ⟨b, o + k, none⟩) hbl).trans hck
      have c2 := hrow.cell (i := k) hlt
      have fz := hrow.frozen k
      have hnew := clone_step hrow
      have hb' := hbel.setCell (p := ⟨w.heap.size, k, none⟩) (Nat.le_refl _) (.int .u8 (f k))
      have REL : Hid ((wr.setCell ⟨w.heap.size, k, none⟩ (.int .u8 (f k))).rowIs w.heap.size 5 n (fun j => if j < k + 1 then .int .u8 (f j) else .int .u8 0) ∧ (wr.setCell ⟨w.heap.size, k, none⟩ (.int .u8 (f k))).heap.size = w.heap.size + 1 ∧ Below w.heap.size w (wr.setCell ⟨w.heap.size, k, none⟩ (.int .u8 (f k)))) :=
        ⟨hnew, by simpa using hsz, hb'⟩
      clear hc hck hrow hnew hb' hbel HR
      go_wp2
      go_roundw
      case rel => exact ⟨k + 1, by omega, by go_num, REL.out⟩
      case measure => simp [intOf]; omega
    · go_wp2
      go_ret
      refine ⟨rfl, hrow.congr fun i hi => ?_, hsz, hbel⟩
      simp [show i < k by omega]

end Go.Proofs.Qxb6605894a
