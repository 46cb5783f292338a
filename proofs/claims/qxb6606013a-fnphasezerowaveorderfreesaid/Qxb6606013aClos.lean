import Derived.Test.Qxb6606013aRows
import Derived.Test.Qxb6606013aPlain
import Derived.WalkKit
import Derived.ProofKit
import Derived.OpenShut
import Derived.WalkSpells
import Derived.WalkSmall
import Derived.Handy
import Derived.Deep.OwnRows
import Derived.Deep.QuietTactic
import Derived.BigQuiet
import Derived.Deep.Light
namespace Go.Proofs.Qxb6606013a
open Go.ChangeShapes Go.WideShapes Go.ChangeAt Go.RowKit
set_option linter.unusedVariables false

/-- inWave. -/
theorem inWave_any (T : Nat) (k p v wv : Int) (w : World) (h4 : w.cell? ⟨T, 4, none⟩ = some (.int .i64 wv)) :
    Calls Try.prog 20 #[.pointer (some ⟨T, 0, none⟩), .agg #[.int .u8 k, .int .u8 p, .int .i64 v]] w fun e w' => e = .returned (.bool (k == 3 && v == wv)) ∧ Below w.heap.size w w' := by
  have hT : T < w.heap.size := World.block_lt_of_cell? w _ h4
  have h4' : ∀ o, (w.alloc o).cell? ⟨T, 4, none⟩ = some (.int .i64 wv) := fun o => (World.cell?_alloc_lt w _ _ hT).trans h4
  cases hk : (k == 3)
  · go_enter Try.func20, Try.ntmps20
    go_wp2
    go_quiet (fail)
    go_wp2
    go_ret
    exact ⟨rfl, below_drewN ((Below.refl _ _).alloc (Nat.le_refl _) _) _⟩
  · go_enter Try.func20, Try.ntmps20
    go_wp2
    go_quiet (fail)
    go_wp2
    go_ret
    exact ⟨rfl, below_drewN ((Below.refl _ _).alloc (Nat.le_refl _) _) _⟩

/-- The closure of answeredPhaseZero: C is the box that holds the transaction's pointer. -/
theorem clos19 (C T : Nat) (k p v wv : Int) (w : World) (hC : w.cell? ⟨C, 0, none⟩ = some (.pointer (some ⟨T, 0, none⟩))) (h4 : w.cell? ⟨T, 4, none⟩ = some (.int .i64 wv)) :
    Calls Try.prog 19 #[.agg #[.int .u8 k, .int .u8 p, .int .i64 v], .pointer (some ⟨C, 0, none⟩)] w fun e w' => e = .returned (.bool (p == 0 && (k == 3 && v == wv))) ∧ Below w.heap.size w w' := by
  have hT : T < w.heap.size := World.block_lt_of_cell? w _ h4
  have hCl : C < w.heap.size := World.block_lt_of_cell? w _ hC
  have h4' : ∀ o, (w.alloc o).cell? ⟨T, 4, none⟩ = some (.int .i64 wv) := fun o => (World.cell?_alloc_lt w _ _ hT).trans h4
  have hC' : ∀ o, (w.alloc o).cell? ⟨C, 0, none⟩ = some (.pointer (some ⟨T, 0, none⟩)) := fun o => (World.cell?_alloc_lt w _ _ hCl).trans hC
  cases hp : (p == 0)
  · go_enter Try.func19, Try.ntmps19
    go_wp2
    go_ret
    exact ⟨rfl, (Below.refl _ _).alloc (Nat.le_refl _) _⟩
  · go_enter Try.func19, Try.ntmps19
    go_wp2_with (go_at_call 20; refine (inWave_any T k p v wv _ (h4' _)).mono ?_; rintro e w1 ⟨rfl, hb⟩)
    go_ret
    exact ⟨rfl, ((Below.refl _ _).alloc (Nat.le_refl _) _).trans (hb.mono (by simp))⟩

/-- The closure of allFinished. -/
theorem clos28 (k p v : Int) (w : World) :
    Calls Try.prog 28 #[.agg #[.int .u8 k, .int .u8 p, .int .i64 v]] w fun e w' => e = .returned (.bool (p != 3)) ∧ Below w.heap.size w w' := by
  go_enter Try.func28, Try.ntmps28
  go_wp2
  go_ret
  exact ⟨rfl, (Below.refl _ _).alloc (Nat.le_refl _) _⟩

/-- slices.Index over a slice of one Kind. -/
theorem kinds1 (G : Nat) (x k : Int) (w : World) (hG : w.cell? ⟨G, 0, none⟩ = some (.int .u8 x)) :
    Calls Try.prog 27 #[.slice (some ⟨G, 0, none⟩) 1 1, .int .u8 k] w fun e w' => e = .returned (.bool (k == x)) ∧ w = w' := by
  cases hk : (k == x)
  · go_enter Try.func27, Try.ntmps27
    go_wp2
    go_rounds 2
    go_ret
    exact ⟨rfl, rfl⟩
  · go_enter Try.func27, Try.ntmps27
    go_wp2
    go_rounds 2
    go_ret
    exact ⟨rfl, rfl⟩

/-- The closure of anyBranch, no kind given. D: the box of the progress asked for (enlisted); E: the box of the kinds. -/
theorem clos26_none (D E : Nat) (k p v : Int) (w : World) (hD : w.cell? ⟨D, 0, none⟩ = some (.int .u8 0)) (hE : w.cell? ⟨E, 0, none⟩ = some (.slice none 0 0)) :
    Calls Try.prog 26 #[.agg #[.int .u8 k, .int .u8 p, .int .i64 v], .pointer (some ⟨D, 0, none⟩), .pointer (some ⟨E, 0, none⟩)] w fun e w' => e = .returned (.bool (p == 0)) ∧ Below w.heap.size w w' := by
  have lD : D < w.heap.size := World.block_lt_of_cell? w _ hD
  have lE : E < w.heap.size := World.block_lt_of_cell? w _ hE
  have hD' : ∀ o, (w.alloc o).cell? ⟨D, 0, none⟩ = some (.int .u8 0) := fun o => (World.cell?_alloc_lt w _ _ lD).trans hD
  have hE' : ∀ o, (w.alloc o).cell? ⟨E, 0, none⟩ = some (.slice none 0 0) := fun o => (World.cell?_alloc_lt w _ _ lE).trans hE
  cases hp : (p == 0)
  · go_enter Try.func26, Try.ntmps26
    go_wp2
    go_ret
    exact ⟨rfl, (Below.refl _ _).alloc (Nat.le_refl _) _⟩
  · go_enter Try.func26, Try.ntmps26
    go_wp2
    go_ret
    exact ⟨rfl, (Below.refl _ _).alloc (Nat.le_refl _) _⟩

/-- The closure of anyBranch, the one kind PhaseZero given, in the array G. -/
theorem clos26_one (D E G : Nat) (k p v : Int) (w : World) (hD : w.cell? ⟨D, 0, none⟩ = some (.int .u8 0)) (hE : w.cell? ⟨E, 0, none⟩ = some (.slice (some ⟨G, 0, none⟩) 1 1)) (hG : w.cell? ⟨G, 0, none⟩ = some (.int .u8 3)) :
    Calls Try.prog 26 #[.agg #[.int .u8 k, .int .u8 p, .int .i64 v], .pointer (some ⟨D, 0, none⟩), .pointer (some ⟨E, 0, none⟩)] w fun e w' => e = .returned (.bool (p == 0 && k == 3)) ∧ Below w.heap.size w w' := by
  have lD : D < w.heap.size := World.block_lt_of_cell? w _ hD
  have lE : E < w.heap.size := World.block_lt_of_cell? w _ hE
  have lG : G < w.heap.size := World.block_lt_of_cell? w _ hG
  have hD' : ∀ o, (w.alloc o).cell? ⟨D, 0, none⟩ = some (.int .u8 0) := fun o => (World.cell?_alloc_lt w _ _ lD).trans hD
  have hE' : ∀ o, (w.alloc o).cell? ⟨E, 0, none⟩ = some (.slice (some ⟨G, 0, none⟩) 1 1) := fun o => (World.cell?_alloc_lt w _ _ lE).trans hE
  have hG' : ∀ o, (w.alloc o).cell? ⟨G, 0, none⟩ = some (.int .u8 3) := fun o => (World.cell?_alloc_lt w _ _ lG).trans hG
  cases hp : (p == 0)
  · go_enter Try.func26, Try.ntmps26
    go_wp2
    go_ret
    exact ⟨rfl, (Below.refl _ _).alloc (Nat.le_refl _) _⟩
  · go_enter Try.func26, Try.ntmps26
    go_wp2_with (go_at_call 27; refine (kinds1 G 3 k _ (hG' _)).mono ?_; rintro e w1 ⟨rfl, rfl⟩)
    go_ret
    exact ⟨rfl, (Below.refl _ _).alloc (Nat.le_refl _) _⟩

/-- The branches' cells: an array of structs, three cells each. -/
def BrAt (w : World) (S n : Nat) (K P W : Nat → Int) : Prop :=
  ∀ j, j < n → w.cell? ⟨S, j * 3, none⟩ = some (.int .u8 (K j)) ∧ w.cell? ⟨S, j * 3 + 1, none⟩ = some (.int .u8 (P j)) ∧ w.cell? ⟨S, j * 3 + 2, none⟩ = some (.int .i64 (W j))


theorem idx19 (S n : Nat) (C T : Nat) (wv : Int) (K P W : Nat → Int) (w : World) (hn : n ≤ 4096) (hbr : BrAt w S n K P W) (hC : w.cell? ⟨C, 0, none⟩ = some (.pointer (some ⟨T, 0, none⟩))) (h4 : w.cell? ⟨T, 4, none⟩ = some (.int .i64 wv)) :
    Calls Try.prog 24 #[.slice (some ⟨S, 0, none⟩) n n, .func (.func 19) #[] #[.pointer (some ⟨C, 0, none⟩)]] w fun e w' => ∃ r : Int, e = .returned (.int .i64 r) ∧ (decide (0 ≤ r)) = anyUp n (bWave K P W wv) ∧ Below w.heap.size w w' := by
  have HB : Hid (BrAt w S n K P W) := hbr
  clear hbr
  go_enter Try.func24, Try.ntmps24
  go_wp2
  go_loopw [8] (fun i wr => ∃ k : Nat, k ≤ n ∧ i = .int .i64 k ∧ anyUp k (bWave K P W wv) = false ∧ Below w.heap.size w wr) (fun i _ => n - (intOf i).toNat)
  case atStart => exact ⟨0, Nat.zero_le _, rfl, anyUp_zero _, Below.refl _ _⟩
  case round =>
    obtain ⟨k, hk, rfl, hany, hbel⟩ := hrel
    have HA : Hid (anyUp k (bWave K P W wv) = false) := hany
    clear hany
    have hC1 := (hbel.cell (p := ⟨C, 0, none⟩) (World.block_lt_of_cell? w _ hC)).trans hC
    have h41 := (hbel.cell (p := ⟨T, 4, none⟩) (World.block_lt_of_cell? w _ h4)).trans h4
    have hsz := hbel.size
    have HBl : Hid (Below w.heap.size w wr) := hbel
    clear hbel hC h4
    by_cases hlt : k < n
    · obtain ⟨b0, b1, b2⟩ := HB.out k hlt
      have lS := World.block_lt_of_cell? w _ b0
      have c0 := (HBl.out.cell (p := ⟨S, k * 3, none⟩) lS).trans b0
      have c1 := (HBl.out.cell (p := ⟨S, k * 3 + 1, none⟩) lS).trans b1
      have c2 := (HBl.out.cell (p := ⟨S, k * 3 + 2, none⟩) lS).trans b2
      clear b0 b1 b2
      cases hb : (bWave K P W wv) k
      · have HB0 : Hid ((bWave K P W wv) k = false) := hb
        clear hb
        go_wp2_with (go_at_call 19; refine (clos19 C T (K k) (P k) (W k) wv _ hC1 h41).mono ?_; rintro e w1 ⟨rfl, hb1⟩; rw [show (P k == 0 && (K k == 3 && W k == wv)) = false from HB0.out])
        go_roundw
        case rel => exact ⟨k + 1, by omega, by go_num, by rw [anyUp_succ, HA.out, HB0.out]; rfl, HBl.out.trans (hb1.mono hsz)⟩
        case measure => simp [intOf]; omega
      · have HB0 : Hid ((bWave K P W wv) k = true) := hb
        clear hb
        go_wp2_with (go_at_call 19; refine (clos19 C T (K k) (P k) (W k) wv _ hC1 h41).mono ?_; rintro e w1 ⟨rfl, hb1⟩; rw [show (P k == 0 && (K k == 3 && W k == wv)) = true from HB0.out])
        go_ret
        refine ⟨k, rfl, ?_, HBl.out.trans (hb1.mono hsz)⟩
        rw [anyUp_iff.2 ⟨k, hlt, HB0.out⟩]
        simp
    · go_wp2_with fail
      go_ret
      refine ⟨-1, rfl, ?_, HBl.out⟩
      obtain rfl : k = n := by omega
      rw [HA.out]; rfl

theorem any19 (S n : Nat) (C T : Nat) (wv : Int) (K P W : Nat → Int) (w : World) (hn : n ≤ 4096) (hbr : BrAt w S n K P W) (hC : w.cell? ⟨C, 0, none⟩ = some (.pointer (some ⟨T, 0, none⟩))) (h4 : w.cell? ⟨T, 4, none⟩ = some (.int .i64 wv)) :
    Calls Try.prog 18 #[.slice (some ⟨S, 0, none⟩) n n, .func (.func 19) #[] #[.pointer (some ⟨C, 0, none⟩)]] w fun e w' => e = .returned (.bool (anyUp n (bWave K P W wv))) ∧ Below w.heap.size w w' := by
  go_enter Try.func18, Try.ntmps18
  go_wp2_with (go_at_call 24; refine (idx19 S n C T wv K P W _ hn hbr hC h4).mono ?_; rintro e w1 ⟨r, rfl, hr, hb1⟩)
  go_ret
  exact ⟨by rw [← hr]; rfl, hb1⟩

theorem idx28 (S n : Nat) (K P W : Nat → Int) (w : World) (hn : n ≤ 4096) (hbr : BrAt w S n K P W) :
    Calls Try.prog 24 #[.slice (some ⟨S, 0, none⟩) n n, .func (.func 28) #[] #[]] w fun e w' => ∃ r : Int, e = .returned (.int .i64 r) ∧ (decide (0 ≤ r)) = anyUp n (bUnf P) ∧ Below w.heap.size w w' := by
  have HB : Hid (BrAt w S n K P W) := hbr
  clear hbr
  go_enter Try.func24, Try.ntmps24
  go_wp2
  go_loopw [8] (fun i wr => ∃ k : Nat, k ≤ n ∧ i = .int .i64 k ∧ anyUp k (bUnf P) = false ∧ Below w.heap.size w wr) (fun i _ => n - (intOf i).toNat)
  case atStart => exact ⟨0, Nat.zero_le _, rfl, anyUp_zero _, Below.refl _ _⟩
  case round =>
    obtain ⟨k, hk, rfl, hany, hbel⟩ := hrel
    have HA : Hid (anyUp k (bUnf P) = false) := hany
    clear hany
    have hsz := hbel.size
    have HBl : Hid (Below w.heap.size w wr) := hbel
    clear hbel
    by_cases hlt : k < n
    · obtain ⟨b0, b1, b2⟩ := HB.out k hlt
      have lS := World.block_lt_of_cell? w _ b0
      have c0 := (HBl.out.cell (p := ⟨S, k * 3, none⟩) lS).trans b0
      have c1 := (HBl.out.cell (p := ⟨S, k * 3 + 1, none⟩) lS).trans b1
      have c2 := (HBl.out.cell (p := ⟨S, k * 3 + 2, none⟩) lS).trans b2
      clear b0 b1 b2
      cases hb : (bUnf P) k
      · have HB0 : Hid ((bUnf P) k = false) := hb
        clear hb
        go_wp2_with (go_at_call 28; refine (clos28 (K k) (P k) (W k) _).mono ?_; rintro e w1 ⟨rfl, hb1⟩; rw [show (P k != 3) = false from HB0.out])
        go_roundw
        case rel => exact ⟨k + 1, by omega, by go_num, by rw [anyUp_succ, HA.out, HB0.out]; rfl, HBl.out.trans (hb1.mono hsz)⟩
        case measure => simp [intOf]; omega
      · have HB0 : Hid ((bUnf P) k = true) := hb
        clear hb
        go_wp2_with (go_at_call 28; refine (clos28 (K k) (P k) (W k) _).mono ?_; rintro e w1 ⟨rfl, hb1⟩; rw [show (P k != 3) = true from HB0.out])
        go_ret
        refine ⟨k, rfl, ?_, HBl.out.trans (hb1.mono hsz)⟩
        rw [anyUp_iff.2 ⟨k, hlt, HB0.out⟩]
        simp
    · go_wp2_with fail
      go_ret
      refine ⟨-1, rfl, ?_, HBl.out⟩
      obtain rfl : k = n := by omega
      rw [HA.out]; rfl

theorem any28 (S n : Nat) (K P W : Nat → Int) (w : World) (hn : n ≤ 4096) (hbr : BrAt w S n K P W) :
    Calls Try.prog 18 #[.slice (some ⟨S, 0, none⟩) n n, .func (.func 28) #[] #[]] w fun e w' => e = .returned (.bool (anyUp n (bUnf P))) ∧ Below w.heap.size w w' := by
  go_enter Try.func18, Try.ntmps18
  go_wp2_with (go_at_call 24; refine (idx28 S n K P W _ hn hbr).mono ?_; rintro e w1 ⟨r, rfl, hr, hb1⟩)
  go_ret
  exact ⟨by rw [← hr]; rfl, hb1⟩

theorem idx26n (S n : Nat) (D E : Nat) (K P W : Nat → Int) (w : World) (hn : n ≤ 4096) (hbr : BrAt w S n K P W) (hD : w.cell? ⟨D, 0, none⟩ = some (.int .u8 0)) (hE : w.cell? ⟨E, 0, none⟩ = some (.slice none 0 0)) :
    Calls Try.prog 24 #[.slice (some ⟨S, 0, none⟩) n n, .func (.func 26) #[] #[.pointer (some ⟨D, 0, none⟩), .pointer (some ⟨E, 0, none⟩)]] w fun e w' => ∃ r : Int, e = .returned (.int .i64 r) ∧ (decide (0 ≤ r)) = anyUp n (bEnl P) ∧ Below w.heap.size w w' := by
  have HB : Hid (BrAt w S n K P W) := hbr
  clear hbr
  go_enter Try.func24, Try.ntmps24
  go_wp2
  go_loopw [8] (fun i wr => ∃ k : Nat, k ≤ n ∧ i = .int .i64 k ∧ anyUp k (bEnl P) = false ∧ Below w.heap.size w wr) (fun i _ => n - (intOf i).toNat)
  case atStart => exact ⟨0, Nat.zero_le _, rfl, anyUp_zero _, Below.refl _ _⟩
  case round =>
    obtain ⟨k, hk, rfl, hany, hbel⟩ := hrel
    have HA : Hid (anyUp k (bEnl P) = false) := hany
    clear hany
    have hD1 := (hbel.cell (p := ⟨D, 0, none⟩) (World.block_lt_of_cell? w _ hD)).trans hD
    have hE1 := (hbel.cell (p := ⟨E, 0, none⟩) (World.block_lt_of_cell? w _ hE)).trans hE
    have hsz := hbel.size
    have HBl : Hid (Below w.heap.size w wr) := hbel
    clear hbel hD hE
    by_cases hlt : k < n
    · obtain ⟨b0, b1, b2⟩ := HB.out k hlt
      have lS := World.block_lt_of_cell? w _ b0
      have c0 := (HBl.out.cell (p := ⟨S, k * 3, none⟩) lS).trans b0
      have c1 := (HBl.out.cell (p := ⟨S, k * 3 + 1, none⟩) lS).trans b1
      have c2 := (HBl.out.cell (p := ⟨S, k * 3 + 2, none⟩) lS).trans b2
      clear b0 b1 b2
      cases hb : (bEnl P) k
      · have HB0 : Hid ((bEnl P) k = false) := hb
        clear hb
        go_wp2_with (go_at_call 26; refine (clos26_none D E (K k) (P k) (W k) _ hD1 hE1).mono ?_; rintro e w1 ⟨rfl, hb1⟩; rw [show (P k == 0) = false from HB0.out])
        go_roundw
        case rel => exact ⟨k + 1, by omega, by go_num, by rw [anyUp_succ, HA.out, HB0.out]; rfl, HBl.out.trans (hb1.mono hsz)⟩
        case measure => simp [intOf]; omega
      · have HB0 : Hid ((bEnl P) k = true) := hb
        clear hb
        go_wp2_with (go_at_call 26; refine (clos26_none D E (K k) (P k) (W k) _ hD1 hE1).mono ?_; rintro e w1 ⟨rfl, hb1⟩; rw [show (P k == 0) = true from HB0.out])
        go_ret
        refine ⟨k, rfl, ?_, HBl.out.trans (hb1.mono hsz)⟩
        rw [anyUp_iff.2 ⟨k, hlt, HB0.out⟩]
        simp
    · go_wp2_with fail
      go_ret
      refine ⟨-1, rfl, ?_, HBl.out⟩
      obtain rfl : k = n := by omega
      rw [HA.out]; rfl

theorem any26n (S n : Nat) (D E : Nat) (K P W : Nat → Int) (w : World) (hn : n ≤ 4096) (hbr : BrAt w S n K P W) (hD : w.cell? ⟨D, 0, none⟩ = some (.int .u8 0)) (hE : w.cell? ⟨E, 0, none⟩ = some (.slice none 0 0)) :
    Calls Try.prog 18 #[.slice (some ⟨S, 0, none⟩) n n, .func (.func 26) #[] #[.pointer (some ⟨D, 0, none⟩), .pointer (some ⟨E, 0, none⟩)]] w fun e w' => e = .returned (.bool (anyUp n (bEnl P))) ∧ Below w.heap.size w w' := by
  go_enter Try.func18, Try.ntmps18
  go_wp2_with (go_at_call 24; refine (idx26n S n D E K P W _ hn hbr hD hE).mono ?_; rintro e w1 ⟨r, rfl, hr, hb1⟩)
  go_ret
  exact ⟨by rw [← hr]; rfl, hb1⟩

theorem idx26o (S n : Nat) (D E G : Nat) (K P W : Nat → Int) (w : World) (hn : n ≤ 4096) (hbr : BrAt w S n K P W) (hD : w.cell? ⟨D, 0, none⟩ = some (.int .u8 0)) (hE : w.cell? ⟨E, 0, none⟩ = some (.slice (some ⟨G, 0, none⟩) 1 1)) (hG : w.cell? ⟨G, 0, none⟩ = some (.int .u8 3)) :
    Calls Try.prog 24 #[.slice (some ⟨S, 0, none⟩) n n, .func (.func 26) #[] #[.pointer (some ⟨D, 0, none⟩), .pointer (some ⟨E, 0, none⟩)]] w fun e w' => ∃ r : Int, e = .returned (.int .i64 r) ∧ (decide (0 ≤ r)) = anyUp n (bPZ K P) ∧ Below w.heap.size w w' := by
  have HB : Hid (BrAt w S n K P W) := hbr
  clear hbr
  go_enter Try.func24, Try.ntmps24
  go_wp2
  go_loopw [8] (fun i wr => ∃ k : Nat, k ≤ n ∧ i = .int .i64 k ∧ anyUp k (bPZ K P) = false ∧ Below w.heap.size w wr) (fun i _ => n - (intOf i).toNat)
  case atStart => exact ⟨0, Nat.zero_le _, rfl, anyUp_zero _, Below.refl _ _⟩
  case round =>
    obtain ⟨k, hk, rfl, hany, hbel⟩ := hrel
    have HA : Hid (anyUp k (bPZ K P) = false) := hany
    clear hany
    have hD1 := (hbel.cell (p := ⟨D, 0, none⟩) (World.block_lt_of_cell? w _ hD)).trans hD
    have hE1 := (hbel.cell (p := ⟨E, 0, none⟩) (World.block_lt_of_cell? w _ hE)).trans hE
    have hG1 := (hbel.cell (p := ⟨G, 0, none⟩) (World.block_lt_of_cell? w _ hG)).trans hG
    have hsz := hbel.size
    have HBl : Hid (Below w.heap.size w wr) := hbel
    clear hbel hD hE hG
    by_cases hlt : k < n
    · obtain ⟨b0, b1, b2⟩ := HB.out k hlt
      have lS := World.block_lt_of_cell? w _ b0
      have c0 := (HBl.out.cell (p := ⟨S, k * 3, none⟩) lS).trans b0
      have c1 := (HBl.out.cell (p := ⟨S, k * 3 + 1, none⟩) lS).trans b1
      have c2 := (HBl.out.cell (p := ⟨S, k * 3 + 2, none⟩) lS).trans b2
      clear b0 b1 b2
      cases hb : (bPZ K P) k
      · have HB0 : Hid ((bPZ K P) k = false) := hb
        clear hb
        go_wp2_with (go_at_call 26; refine (clos26_one D E G (K k) (P k) (W k) _ hD1 hE1 hG1).mono ?_; rintro e w1 ⟨rfl, hb1⟩; rw [show (P k == 0 && K k == 3) = false from HB0.out])
        go_roundw
        case rel => exact ⟨k + 1, by omega, by go_num, by rw [anyUp_succ, HA.out, HB0.out]; rfl, HBl.out.trans (hb1.mono hsz)⟩
        case measure => simp [intOf]; omega
      · have HB0 : Hid ((bPZ K P) k = true) := hb
        clear hb
        go_wp2_with (go_at_call 26; refine (clos26_one D E G (K k) (P k) (W k) _ hD1 hE1 hG1).mono ?_; rintro e w1 ⟨rfl, hb1⟩; rw [show (P k == 0 && K k == 3) = true from HB0.out])
        go_ret
        refine ⟨k, rfl, ?_, HBl.out.trans (hb1.mono hsz)⟩
        rw [anyUp_iff.2 ⟨k, hlt, HB0.out⟩]
        simp
    · go_wp2_with fail
      go_ret
      refine ⟨-1, rfl, ?_, HBl.out⟩
      obtain rfl : k = n := by omega
      rw [HA.out]; rfl

theorem any26o (S n : Nat) (D E G : Nat) (K P W : Nat → Int) (w : World) (hn : n ≤ 4096) (hbr : BrAt w S n K P W) (hD : w.cell? ⟨D, 0, none⟩ = some (.int .u8 0)) (hE : w.cell? ⟨E, 0, none⟩ = some (.slice (some ⟨G, 0, none⟩) 1 1)) (hG : w.cell? ⟨G, 0, none⟩ = some (.int .u8 3)) :
    Calls Try.prog 18 #[.slice (some ⟨S, 0, none⟩) n n, .func (.func 26) #[] #[.pointer (some ⟨D, 0, none⟩), .pointer (some ⟨E, 0, none⟩)]] w fun e w' => e = .returned (.bool (anyUp n (bPZ K P))) ∧ Below w.heap.size w w' := by
  go_enter Try.func18, Try.ntmps18
  go_wp2_with (go_at_call 24; refine (idx26o S n D E G K P W _ hn hbr hD hE hG).mono ?_; rintro e w1 ⟨r, rfl, hr, hb1⟩)
  go_ret
  exact ⟨by rw [← hr]; rfl, hb1⟩
end Go.Proofs.Qxb6606013a
