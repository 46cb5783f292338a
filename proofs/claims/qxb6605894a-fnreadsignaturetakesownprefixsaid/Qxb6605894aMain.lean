import Derived.Test.Qxb6605894aRead
import Derived.WalkSmall
import Derived.Deep.Light
namespace Go.Proofs.Qxb6605894a
open Go.ChangeShapes Go.WideShapes Go.ChangeAt Go.RowKit
set_option linter.unusedVariables false

theorem bytes_ok (a : Option Addr) (n c : Nat) (fl : Bool) (w : World) (hn : n ≤ 1048576) :
    Calls Try.prog 7 #[.slice a n c, .bool fl] w fun e w' => e = .returned (.bool true) ∧ w = w' := by
  go_enter Try.func7, Try.ntmps7
  go_wp2
  go_ret
  exact ⟨rfl, rfl⟩

theorem bytes_no (a : Option Addr) (n c : Nat) (fl : Bool) (w : World) (hn : 1048576 < n) :
    Calls Try.prog 7 #[.slice a n c, .bool fl] w fun e w' => e = .returned (.bool false) ∧ w' = w := by
  go_enter Try.func7, Try.ntmps7
  go_wp2
  go_ret
  exact ⟨rfl, rfl⟩

theorem main_long (a : Option Addr) (n c : Nat) (fl : Bool) (w : World) (hn : 1048576 < n) :
    Calls Try.prog 5 #[.slice a n c, .bool fl] w fun e w' => e = .returned (.bool true) ∧ Below w.heap.size w w' := by
  have H7 := bytes_no a n c fl w hn
  go_enter Try.func5, Try.ntmps5
  go_wp2_with (go_at_call 7; refine H7.mono ?_; rintro e w' ⟨rfl, rfl⟩)
  go_ret
  exact ⟨rfl, Below.refl _ _⟩

theorem main_nil (fl : Bool) (w : World) :
    Calls Try.prog 5 #[.slice none 0 0, .bool fl] w fun e w' => e = .returned (.bool true) ∧ Below w.heap.size w w' := by
  have hnil := @Lib.run_eql_slice_nil Try.prog
  have hlt : ((0 : Nat) : Int) < 64 := by omega
  go_enter Try.func5, Try.ntmps5
  go_wp2_with (first
    | (go_at_call 7; refine (bytes_ok _ _ _ _ _ (by omega)).mono ?_; rintro e w' ⟨rfl, rfl⟩)
    | (go_at_call 8; refine (clone_nil _).mono ?_; rintro e w' ⟨rfl, rfl⟩)
    | (go_at_call 9; go_in)
    | (go_at_call 11; go_in)
    | (go_at_call 12; go_in)
    | (go_at_call 13; go_in)
    | (go_at_call 17; go_in)
    | (go_at_call 10; refine (read_fail _ none 0 0 fl _ (by omega) (by simp [go_sem]) (by simp [go_sem]) (by simp [go_sem]) (Or.inr (by omega))).mono ?_; rintro e w' ⟨rfl, rfl⟩)
    | (go_at_call 14; refine (same_true none none 0 0 0 (fun _ => 0) _ (by omega) (Or.inl rfl) (Or.inl rfl)).mono ?_; rintro e w' ⟨rfl, m, rfl⟩))
  all_goals (go_ret; exact ⟨rfl, below_drewN ((Below.refl _ _).alloc (Nat.le_refl _) _) _⟩)

theorem reads_row {w : World} {b n : Nat} {f : Nat → Int} (h : w.rowIs b 5 n (fun j => .int .u8 (f j))) : Reads w (some ⟨b, 0, none⟩) n f :=
  Or.inr ⟨b, 0, rfl, fun j hj => by simpa using h.cell hj⟩

theorem main_bad (x : Addr) (n c : Nat) (f : Nat → Int) (fl : Bool) (w : World) (hn : n ≤ 1048576) (hr : Reads w (some x) n f) (hbad : fl = true ∨ (n : Int) < 64) :
    Calls Try.prog 5 #[.slice (some x) n c, .bool fl] w fun e w' => e = .returned (.bool true) ∧ Below w.heap.size w w' := by
  have hnil := @Lib.run_eql_slice_nil Try.prog
  go_enter Try.func5, Try.ntmps5
  go_wp2_with (go_at_call 7; refine (bytes_ok _ _ _ _ _ (by omega)).mono ?_; rintro e w' ⟨rfl, rfl⟩)
  refine (clone_some x n c f w hn hr).mono ?_
  rintro e w1 ⟨rfl, row1, sz1, bel1⟩
  have h12 : w.heap.size < w1.heap.size := by omega
  clear sz1
  go_wp2_with fail
  refine (clone_some ⟨w.heap.size, 0, none⟩ n n f w1 hn (reads_row row1)).mono ?_
  rintro e w2 ⟨rfl, row2, sz2, bel2⟩
  have h23 : w1.heap.size < w2.heap.size := by omega
  clear sz2
  have HR1 : Hid (w2.rowIs w.heap.size 5 n (fun j => .int .u8 (f j))) := row1.of_block (bel2.block _ h12)
  have HR2 : Hid (w2.rowIs w1.heap.size 5 n (fun j => .int .u8 (f j))) := row2
  have HB : Hid (Below w.heap.size w w2) := bel1.trans (bel2.mono (by omega))
  have HBAD : Hid (fl = true ∨ (n : Int) < 64) := hbad
  clear row1 row2 bel1 bel2 hr
  go_wp2_with (first
    | (go_at_call 9; go_in)
    | (go_at_call 10; refine (read_fail w2.heap.size (some ⟨w.heap.size, 0, none⟩) n n fl _ (by omega) (by simp [go_sem]) (by simp [go_sem]) (by simp [go_sem]) HBAD.out).mono ?_; rintro e w' ⟨rfl, rfl⟩)
    | (go_at_call 11; go_in)
    | (go_at_call 12; go_in)
    | (go_at_call 13; go_in)
    | (go_at_call 17; refine (take_fail w2.heap.size (some ⟨w.heap.size, 0, none⟩) n n true _ _ (by omega) (by omega) (by omega) (by simp [go_sem]) (by simp [go_sem]) (by simp [go_sem]) (Or.inl rfl)).mono ?_; rintro e w' ⟨rfl, rfl⟩)
    | (go_at_call 14; refine (same_true (some ⟨w.heap.size, 0, none⟩) (some ⟨w1.heap.size, 0, none⟩) n n n f _ (by omega) (reads_row (HR1.out.alloc _)) (reads_row (HR2.out.alloc _))).mono ?_; rintro e w' ⟨rfl, m, rfl⟩))
  all_goals (go_ret; first | exact ⟨rfl, below_drewN (HB.out.alloc (by omega) _) _⟩ | (exfalso; rcases HBAD.out with h | h <;> simp_all; omega))

theorem reads_part {w : World} {b n : Nat} {f : Nat → Int} (h : w.rowIs b 5 n (fun j => .int .u8 (f j))) (o m : Nat) (hm : o + m ≤ n) (g : Nat → Int) (hg : ∀ j, j < m → g j = f (o + j)) : Reads w (some ⟨b, o, none⟩) m g :=
  Or.inr ⟨b, o, rfl, fun j hj => by rw [hg j hj]; exact h.cell (by omega)⟩

/-- What stands behind readSignature, as the rest of the walk wants it. -/
theorem behind_read {w2 w4 : World} {K1 K2 n g cap : Nat} {f : Nat → Int} (hK1 : K1 < w2.heap.size) (hK2 : K2 < w2.heap.size) (R1 : w2.rowIs K1 5 n (fun j => .int .u8 (f j))) (R2 : w2.rowIs K2 5 n (fun j => .int .u8 (f j)))
    (hg : (w2.alloc (.cells #[.slice (some ⟨K1, 0, none⟩) n n, .bool false] 35)).heap.size ≤ g)
    (hown : w4.ownsRow (w2.alloc (.cells #[.slice (some ⟨K1, 0, none⟩) n n, .bool false] 35)).heap.size 5 1 (.slice (some ⟨g, 0, none⟩) 64 cap) 64 ((List.range 64).map fun j => .int .u8 (f j)))
    (hbel : Below (w2.alloc (.cells #[.slice (some ⟨K1, 0, none⟩) n n, .bool false] 35)).heap.size ((w2.alloc (.cells #[.slice (some ⟨K1, 0, none⟩) n n, .bool false] 35)).setCell ⟨w2.heap.size, 0, none⟩ (.slice (some ⟨K1, if n = 64 then 0 else 0 + 64, none⟩) (n - 64) (n - 64))) w4) :
    ∃ o2, (n = 64 ∨ o2 = 64) ∧ w4.cell? ⟨w2.heap.size, 0, none⟩ = some (.slice (some ⟨K1, o2, none⟩) (n - 64) (n - 64)) ∧ w4.cell? ⟨w2.heap.size, 1, none⟩ = some (.bool false) ∧ w4.frozen? ⟨w2.heap.size, 0, none⟩ = false ∧
      w4.rowIs K1 5 n (fun j => .int .u8 (f j)) ∧ w4.rowIs K2 5 n (fun j => .int .u8 (f j)) ∧ Below w2.heap.size w2 w4 ∧ w2.heap.size < g ∧ w2.heap.size < w4.heap.size ∧
      w4.ownsRow (w2.heap.size + 1) 5 1 (.slice (some ⟨g, 0, none⟩) 64 cap) 64 ((List.range 64).map fun j => .int .u8 (f j)) := by
  rw [World.setCell_alloc_at _ _ _ _ _ rfl] at hbel
  simp only [World.size_alloc] at hg hown hbel
  have hsz := hbel.size
  simp only [World.size_alloc] at hsz
  have hold : ∀ k, k < w2.heap.size → w4.heap[k]? = w2.heap[k]? := fun k hk => (hbel.block k (by omega)).trans (Below.heap_alloc _ _ _ hk)
  refine ⟨if n = 64 then 0 else 0 + 64, ?_, ?_, ?_, ?_, R1.of_block (hold _ hK1), R2.of_block (hold _ hK2), ⟨hbel.os, hbel.tape, hbel.output, by omega, hold⟩, by omega, by omega, hown⟩
  · by_cases h : n = 64
    · exact Or.inl h
    · exact Or.inr (by simp [h])
  · rw [hbel.cell (p := ⟨w2.heap.size, 0, none⟩) (by simp)]; simp [go_sem]
  · rw [hbel.cell (p := ⟨w2.heap.size, 1, none⟩) (by simp)]; simp [go_sem]
  · rw [hbel.frozen (p := ⟨w2.heap.size, 0, none⟩) (by simp)]; simp [go_sem]

set_option maxHeartbeats 600000 in
theorem main_good (x : Addr) (n c : Nat) (f : Nat → Int) (w : World) (hn : n ≤ 1048576) (hr : Reads w (some x) n f) (h64 : 64 ≤ n) :
    Calls Try.prog 5 #[.slice (some x) n c, .bool false] w fun e w' => e = .returned (.bool true) ∧ Below w.heap.size w w' := by
  have hnil := @Lib.run_eql_slice_nil Try.prog
  have hi64 : (64 : Int) ≤ (n : Int) := by omega
  go_enter Try.func5, Try.ntmps5
  go_wp2_with (go_at_call 7; refine (bytes_ok _ _ _ _ _ (by omega)).mono ?_; rintro e w' ⟨rfl, rfl⟩)
  refine (clone_some x n c f w hn hr).mono ?_
  rintro e w1 ⟨rfl, row1, sz1, bel1⟩
  have h12 : w.heap.size < w1.heap.size := by omega
  clear sz1
  go_wp2_with fail
  refine (clone_some ⟨w.heap.size, 0, none⟩ n n f w1 hn (reads_row row1)).mono ?_
  rintro e w2 ⟨rfl, row2, sz2, bel2⟩
  have h23 : w1.heap.size < w2.heap.size := by omega
  clear sz2
  have HR1 : Hid (w2.rowIs w.heap.size 5 n (fun j => .int .u8 (f j))) := row1.of_block (bel2.block _ h12)
  have HR2 : Hid (w2.rowIs w1.heap.size 5 n (fun j => .int .u8 (f j))) := row2
  have HB : Hid (Below w.heap.size w w2) := bel1.trans (bel2.mono (by omega))
  clear row1 row2 bel1 bel2 hr
  go_wp2_with (go_at_call 9; go_in)
  refine (read_ok w2.heap.size w.heap.size 0 n f _ hn h64 (by omega) (by simp [go_sem]) (by simp [go_sem]) (by simp [go_sem]) (fun j hj => by simpa using (HR1.out.alloc _).cell hj)).mono ?_
  rintro e w4 ⟨g, cap, rfl, hg, hown, hbel⟩
  obtain ⟨o2, ho2, hc0, hc1, hfz, R1, R2, hB4, hg2, hs4, hown4⟩ := behind_read (by omega) h23 HR1.out HR2.out hg hown hbel
  have HO2 : Hid (n = 64 ∨ o2 = 64) := ho2
  have H1 : Hid (w4.rowIs w.heap.size 5 n (fun j => .int .u8 (f j))) := R1
  have H2 : Hid (w4.rowIs w1.heap.size 5 n (fun j => .int .u8 (f j))) := R2
  have H4 : Hid (w4.ownsRow (w2.heap.size + 1) 5 1 (.slice (some ⟨g, 0, none⟩) 64 cap) 64 ((List.range 64).map fun j => .int .u8 (f j))) := hown4
  have HB4 : Hid (Below w.heap.size w w4) := HB.out.trans (hB4.mono (by omega))
  have HG : Hid (Reads w4 (some ⟨g, 0, none⟩) 64 f) := Or.inr ⟨g, 0, rfl, fun j hj => by rw [Nat.zero_add, hown4.cellAt j (by omega)]; simp [hj]⟩
  clear ho2 R1 R2 hown4 hB4 HR1 HR2 HB hg hown hbel
  go_wp2_with (first
    | (go_at_call 11; go_in)
    | (go_at_call 12; go_in)
    | (go_at_call 13; go_in)
    | (go_at_call 14; refine (same_true (some ⟨g, 0, none⟩) (some ⟨w1.heap.size, 0, none⟩) 64 cap n f _ (by omega) HG.out (reads_part H2.out 0 64 (by omega) f (fun j _ => by simp))).mono ?_; rintro e w' ⟨rfl, m, rfl⟩))
  refine (take_ok w2.heap.size w.heap.size o2 (n - 64) (n - 64) _ (by omega) (Nat.le_refl _) (by simpa using hc0) (by simpa using hc1) (by simpa using hfz)).mono ?_
  rintro e w5 ⟨rfl, hw5⟩
  have K1 : Hid (w5.rowIs w.heap.size 5 n (fun j => .int .u8 (f j))) := by rw [hw5]; exact World.rowIs.setOther (w := w4.drewN m) H1.out (by simp; omega) _
  have K2 : Hid (w5.rowIs w1.heap.size 5 n (fun j => .int .u8 (f j))) := by rw [hw5]; exact World.rowIs.setOther (w := w4.drewN m) H2.out (by simp; omega) _
  have K4 : Hid (w5.ownsRow (w2.heap.size + 1) 5 1 (.slice (some ⟨g, 0, none⟩) 64 cap) 64 ((List.range 64).map fun j => .int .u8 (f j))) := by rw [hw5]; exact ownsRow_setCell_below (w := w4.drewN m) H4.out (by simp) _
  have KB : Hid (Below w.heap.size w w5) := by rw [hw5]; exact (below_drewN HB4.out m).setCell (by simp; omega) _
  have KR : Hid (Reads w5 (some ⟨w.heap.size, o2, none⟩) (n - 64) (fun j => f (64 + j))) := by
    rcases HO2.out with h | h
    · exact Or.inl (by omega)
    · rw [h]; exact reads_part K1.out 64 (n - 64) (by omega) _ (fun j _ => rfl)
  have KQ : ∀ o3, (n = 64 ∨ o3 = 64) → Reads w5 (some ⟨w1.heap.size, o3, none⟩) (n - 64) (fun j => f (64 + j)) := by
    intro o3 h
    rcases h with h | h
    · exact Or.inl (by omega)
    · rw [h]; exact reads_part K2.out 64 (n - 64) (by omega) _ (fun j _ => rfl)
  have KS : Hid (∀ o3, (n = 64 ∨ o3 = 64) → Reads w5 (some ⟨w1.heap.size, o3, none⟩) (n - 64) (fun j => f (64 + j))) := KQ
  clear hw5 H1 H2 H4 HB4 HG HO2 KQ hc0 hc1 hfz
  go_wp2_with fail
  all_goals
    refine (same_true _ _ _ _ _ (fun j => f (64 + j)) w5 (by omega) (by first | exact Or.inl rfl | exact KR.out) (by first | exact Or.inl rfl | exact KS.out _ (Or.inr rfl))).mono ?_
    rintro e w6 ⟨rfl, m6, rfl⟩
    clear KR KS
    go_wp2_with fail
    go_loopw [9] (fun i wr => ∃ (k : Nat) (xs : List Value), k ≤ 64 ∧ i = .int .i64 k ∧ (∀ j, j < 64 → ∃ z, xs[j]? = some (.int .u8 z)) ∧ wr.ownsRow (w2.heap.size + 1) 5 1 (.slice (some ⟨g, 0, none⟩) 64 cap) 64 xs ∧ Below (w2.heap.size + 1) w5 wr) (fun i _ => 64 - (intOf i).toNat)
    case atStart => exact ⟨0, _, by omega, rfl, fun j hj => ⟨f j, by simp [hj]⟩, K4.out, below_drewN (Below.refl _ _) _⟩
    case round =>
      obtain ⟨k, xs, hk, rfl, hxs, hown, hbel⟩ := hrel
      by_cases hlt : k < 64
      · obtain ⟨z, hz⟩ := hxs k hlt
        have c1 : wr.cell? ⟨g, k, none⟩ = some (.int .u8 z) := (hown.cellAt k (by omega)).trans hz
        have c2 := hown.frozenAt k
        have HX : Hid (∀ j, j < 64 → ∃ z, xs[j]? = some (.int .u8 z)) := hxs
        have HO : Hid (wr.ownsRow (w2.heap.size + 1) 5 1 (.slice (some ⟨g, 0, none⟩) 64 cap) 64 xs) := hown
        have HBl : Hid (Below (w2.heap.size + 1) w5 wr) := hbel
        clear hxs hown hbel hz K1 K2 K4 KB
        go_wp2
        go_roundw
        case rel =>
          refine ⟨k + 1, xs.set k _, by omega, by go_num, fun j hj => ?_, (HO.out.stored k _).1, HBl.out.setCell (by simp; omega) _⟩
          by_cases e : j = k
          · subst e
            have hl : j < xs.length := by have := HO.out.1; omega
            exact ⟨bits BinOp.xor IntKind.u8 z 255, by simp [hl]⟩
          · obtain ⟨z', hz'⟩ := HX.out j hj
            exact ⟨z', by rw [List.getElem?_set_ne (fun h => e h.symm)]; exact hz'⟩
        case measure => simp [intOf]; omega
      · have KB2 : Hid (Below w.heap.size w wr) := KB.out.trans (hbel.mono (by omega))
        have L1 : Hid (∀ q, q = n → Reads wr (some ⟨w.heap.size, 0, none⟩) q f) := by rintro q rfl; exact reads_row (K1.out.of_block (hbel.block _ (by omega)))
        have L2 : Hid (∀ q, q = n → Reads wr (some ⟨w1.heap.size, 0, none⟩) q f) := by rintro q rfl; exact reads_row (K2.out.of_block (hbel.block _ (by omega)))
        clear hxs hown hbel K1 K2 K4 KB
        go_wp2_with fail
        refine (same_true _ _ _ _ _ f wr ?_ (L1.out _ ?_) (L2.out _ ?_)).mono ?_
        · omega
        · omega
        · omega
        rintro e w' ⟨rfl, m, rfl⟩
        go_wp2
        go_ret
        exact ⟨rfl, below_drewN KB2.out _⟩
end Go.Proofs.Qxb6605894a
