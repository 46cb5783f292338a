import Derived.Test.Qxb6608527aRec
import Derived.Deep.RegionLaw
import Derived.Deep.DrawnRows
namespace Go.Proofs.Qxb6608527a
open Go.ChangeShapes Go.WideShapes Go.ChangeAt Go.RowKit
set_option linter.unusedVariables false
attribute [local go_sem ↓] Go.wp_at_zero Go.wp_at_succ

/-- An entry in block E, its n recipients in block g. -/
structure Ent (w : World) (E g n : Nat) (A S : Nat → ByteArray) : Prop where
  ent : w.cell? ⟨E, 2, none⟩ = some (.slice (some ⟨g, 0, none⟩) n n)
  row : Row w g n n A S
theorem Ent.below {w w' : World} {E g n : Nat} {A S : Nat → ByteArray} (h : Ent w E g n A S) (hb : Below w.heap.size w w') : Ent w' E g n A S := ⟨cell_later hb h.ent, h.row.below hb⟩
def EntOut (w w' : World) (n : Nat) (A S : Nat → ByteArray) (e : Ending) : Prop := ∃ E g, e = .returned (.pointer (some ⟨E, 0, none⟩)) ∧ Ent w' E g n A S ∧ w.heap.size ≤ g ∧ g < E

/-- Eight cells that may be written, one by one. -/
theorem there8 {w : World} {g o : Nat} (h : w.there g o 8) : ∃ u0 u1 u2 u3 u4 u5 u6 u7, (w.cell? ⟨g, o, none⟩ = some u0 ∧ w.cell? ⟨g, o + 1, none⟩ = some u1 ∧ w.cell? ⟨g, o + 2, none⟩ = some u2 ∧ w.cell? ⟨g, o + 3, none⟩ = some u3 ∧ w.cell? ⟨g, o + 4, none⟩ = some u4 ∧ w.cell? ⟨g, o + 5, none⟩ = some u5 ∧ w.cell? ⟨g, o + 6, none⟩ = some u6 ∧ w.cell? ⟨g, o + 7, none⟩ = some u7) ∧
    w.frozen? ⟨g, o, none⟩ = false ∧ w.frozen? ⟨g, o + 1, none⟩ = false ∧ w.frozen? ⟨g, o + 2, none⟩ = false ∧ w.frozen? ⟨g, o + 3, none⟩ = false ∧ w.frozen? ⟨g, o + 4, none⟩ = false ∧ w.frozen? ⟨g, o + 5, none⟩ = false ∧ w.frozen? ⟨g, o + 6, none⟩ = false ∧ w.frozen? ⟨g, o + 7, none⟩ = false := by
  have q : ∀ j, j < 8 → ∃ u, w.cell? ⟨g, o + j, none⟩ = some u := fun j hj => Option.isSome_iff_exists.1 (h j hj).1
  obtain ⟨u0, h0⟩ := q 0 (by omega)
  obtain ⟨u1, h1⟩ := q 1 (by omega)
  obtain ⟨u2, h2⟩ := q 2 (by omega)
  obtain ⟨u3, h3⟩ := q 3 (by omega)
  obtain ⟨u4, h4⟩ := q 4 (by omega)
  obtain ⟨u5, h5⟩ := q 5 (by omega)
  obtain ⟨u6, h6⟩ := q 6 (by omega)
  obtain ⟨u7, h7⟩ := q 7 (by omega)
  exact ⟨u0, u1, u2, u3, u4, u5, u6, u7, ⟨h0, h1, h2, h3, h4, h5, h6, h7⟩, (h 0 (by omega)).2, (h 1 (by omega)).2, (h 2 (by omega)).2, (h 3 (by omega)).2, (h 4 (by omega)).2, (h 5 (by omega)).2, (h 6 (by omega)).2, (h 7 (by omega)).2⟩

/-- The eight stores are one. -/
theorem rc_set (w : World) (g o : Nat) (a s : ByteArray) : ((((((((w.setCell ⟨g, o, none⟩ (.string a)).setCell ⟨g, o + 1, none⟩ (.string s)).setCell ⟨g, o + 2, none⟩ (.string ⟨#[]⟩)).setCell ⟨g, o + 3, none⟩ (.string ⟨#[]⟩)).setCell ⟨g, o + 4, none⟩ (.int .u64 0)).setCell ⟨g, o + 5, none⟩ (.int .i64 0)).setCell ⟨g, o + 6, none⟩ (.pointer none)).setCell ⟨g, o + 7, none⟩ (.int .i64 0)) = w.setCells g o (rc a s) := rfl
/-- One recipient more. -/
theorem row_step {w wr : World} {g n k : Nat} {A S : Nat → ByteArray} (h : Row wr g n k A S) (hk : k < n) (hb : Below w.heap.size w wr) (hg : w.heap.size ≤ g) (hs : g < wr.heap.size) :
    Row (wr.setCells g (k * 8) (rc (A k) (S k))) g n (k + 1) A S ∧ Below w.heap.size w (wr.setCells g (k * 8) (rc (A k) (S k))) ∧ g < (wr.setCells g (k * 8) (rc (A k) (S k))).heap.size := by
  have h1 := h.store hk
  have h2 := setCells_below (o := k * 8) (vs := rc (A k) (S k)) hb hg
  have h3 := (setCells_below (o := k * 8) (vs := rc (A k) (S k)) (Below.refl 0 wr) (Nat.zero_le g)).size
  generalize wr.setCells g (k * 8) (rc (A k) (S k)) = wz at h1 h2 h3 ⊢
  exact ⟨h1, h2, Nat.lt_of_lt_of_le hs h3⟩
theorem row_drew {w wz : World} {g n k : Nat} {A S : Nat → ByteArray} (h : Row wz g n k A S ∧ Below w.heap.size w wz ∧ g < wz.heap.size) : Row wz.drew g n k A S ∧ Below w.heap.size w wz.drew ∧ g < wz.drew.heap.size :=
  ⟨h.1.below (Below.refl _ _).drew, h.2.1.drew, h.2.2⟩

set_option maxHeartbeats 2000000 in
/-- entryOf, of all of them. -/
theorem entryOf (a1 a2 : Option Addr) (n1 c1 n2 c2 : Nat) (F1 F2 : Nat → ByteArray) (w : World) (hn : n1 ≤ 65536) (hF1 : Strs w a1 n1 F1) (hF2 : Strs w a2 n2 F2) :
    Calls Try.prog 11 #[.slice a1 n1 c1, .slice a2 n2 c2, .int .i64 0, .int .i64 n1] w fun e w' => EntOut w w' n1 (adr n2 F2) F1 e ∧ Below w.heap.size w w' := by
  have HF : Hid (Strs w a1 n1 F1 ∧ Strs w a2 n2 F2) := ⟨hF1, hF2⟩
  clear hF1 hF2
  obtain ⟨z, hmk⟩ := run_make_recs w n1 hn
  have HM : Hid (Row (w.alloc (.cells (madeCells z (n1 * 8)) 40)) w.heap.size n1 0 (adr n2 F2) F1 ∧ Below w.heap.size w (w.alloc (.cells (madeCells z (n1 * 8)) 40)) ∧ w.heap.size < (w.alloc (.cells (madeCells z (n1 * 8)) 40)).heap.size) := ⟨Row.made w z n1 _ _, (Below.refl _ _).alloc (Nat.le_refl _) _, by simp⟩
  go_enter Try.func11, Try.ntmps11
  go_wp2_with fail
  go_loopw [10] (fun i wx => ∃ k : Nat, k ≤ n1 ∧ i = .int .i64 k ∧ Row wx w.heap.size n1 k (adr n2 F2) F1 ∧ Below w.heap.size w wx ∧ w.heap.size < wx.heap.size) (fun i _ => n1 - (intOf i).toNat)
  case atStart => exact ⟨0, Nat.zero_le _, rfl, HM.out⟩
  case round =>
    clear HM hmk
    obtain ⟨k, hk, rfl, hrow, hbel, hsz⟩ := hrel
    have HR : Hid (Row wr w.heap.size n1 k (adr n2 F2) F1 ∧ Below w.heap.size w wr ∧ w.heap.size < wr.heap.size) := ⟨hrow, hbel, hsz⟩
    clear hrow hbel hsz
    by_cases hlt : k < n1
    · obtain ⟨b1, o1, rfl, r1⟩ := HF.out.1.at (by omega)
      have HC : Hid (∀ wx, Below w.heap.size w wx → wx.cell? ⟨b1, o1 + k, none⟩ = some (.string (F1 k))) := fun wx hb => cell_later hb (r1 k (by omega))
      have d1 := HC.out wr HR.out.2.1
      have t1 : wr.there w.heap.size (k * 8) 8 := there_sub HR.out.1.thr (by omega)
      have i1 : (0 : Int) ≤ (k : Int) := by omega
      have i2 : (k : Int) < (n1 : Int) := by omega
      have hne : ¬ b1 = w.heap.size := by have := World.block_lt_of_cell? w _ (r1 k (by omega)); intro e; simp at this; omega
      have e2 : IntKind.i64.wrap (k : Int) = (k : Int) := IntWalk.i64_in _ ⟨by omega, by omega⟩
      obtain ⟨u0, u1, u2, u3, u4, u5, u6, u7, ⟨g0, g1, g2, g3, g4, g5, g6, g7⟩, f0, f1, f2, f3, f4, f5, f6, f7⟩ := there8 t1
      clear t1
      have hne' : ¬ w.heap.size = b1 := fun e => hne e.symm
      clear r1
      go_wp2_with fail
      go_region_held3 (fun w' => w'.cell? ⟨b1, o1 + k, none⟩ = some (.string (F1 k)))
        (first | go_keep)
        (first
          | (go_at_call 14; refine (addrAt a2 n2 c2 k F2 _ (by exact HF.out.2.below HR.out.2.1.drew)).mono ?_; rintro e w8 ⟨rfl, rfl⟩))
      rw [rc_set]
      have R7 := row_step HR.out.1 hlt HR.out.2.1 (Nat.le_refl _) HR.out.2.2
      generalize wr.setCells w.heap.size (k * 8) (rc (adr n2 F2 k) (F1 k)) = wz at R7 ⊢
      have R8 : Hid (Row wz.drew w.heap.size n1 (k + 1) (adr n2 F2) F1 ∧ Below w.heap.size w wz.drew ∧ w.heap.size < wz.drew.heap.size) := row_drew R7
      clear R7
      clear g0 g1 g2 g3 g4 g5 g6 g7 f0 f1 f2 f3 f4 f5 f6 f7 d1 HR
      go_wp2
      go_roundw
      case rel => exact ⟨k + 1, by omega, by go_num, R8.out⟩
      case measure => simp [intOf]; omega
    · obtain rfl : n1 = k := by omega
      go_wp2
      go_ret
      exact ⟨⟨_, w.heap.size, rfl, ⟨by simp [go_sem], HR.out.1.below ((Below.refl _ _).alloc (Nat.le_refl _) _)⟩, Nat.le_refl _, HR.out.2.2⟩, HR.out.2.1.alloc HR.out.2.1.size _⟩
end Go.Proofs.Qxb6608527a
