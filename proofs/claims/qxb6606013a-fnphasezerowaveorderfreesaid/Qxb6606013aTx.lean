import Derived.Test.Qxb6606013aClos
namespace Go.Proofs.Qxb6606013a
open Go.ChangeShapes Go.WideShapes Go.ChangeAt Go.RowKit
set_option linter.unusedVariables false

/-- All blocks that were there are as they were, but for those named. -/
structure Keeps (X : List Nat) (w w' : World) : Prop where
  os : w'.os = w.os
  tape : w'.tape = w.tape
  output : w'.output = w.output
  size : w.heap.size ≤ w'.heap.size
  block : ∀ k, k < w.heap.size → k ∉ X → w'.heap[k]? = w.heap[k]?

theorem Keeps.refl (X : List Nat) (w : World) : Keeps X w w := ⟨rfl, rfl, rfl, Nat.le_refl _, fun _ _ _ => rfl⟩
theorem Keeps.trans {X : List Nat} {a b c : World} (h : Keeps X a b) (k : Keeps X b c) : Keeps X a c :=
  ⟨k.os.trans h.os, k.tape.trans h.tape, k.output.trans h.output, Nat.le_trans h.size k.size, fun i hi hx => (k.block i (Nat.lt_of_lt_of_le hi h.size) hx).trans (h.block i hi hx)⟩
theorem Keeps.of_below {X : List Nat} {w w' : World} (h : Below w.heap.size w w') : Keeps X w w' := ⟨h.os, h.tape, h.output, h.size, fun k hk _ => h.block k hk⟩
theorem Keeps.set {X : List Nat} (w : World) (p : Addr) (hp : p.block ∈ X) (u : Value) : Keeps X w (w.setCell p u) :=
  ⟨rfl, rfl, rfl, by simp, fun k _ hx => Below.heap_setCell _ _ _ _ (fun e => hx (e ▸ hp))⟩
theorem Keeps.sub {X Y : List Nat} {w w' : World} (h : Keeps X w w') (hs : ∀ k, k ∈ X → k ∈ Y) : Keeps Y w w' := ⟨h.os, h.tape, h.output, h.size, fun k hk hx => h.block k hk (fun hh => hx (hs k hh))⟩
theorem Keeps.below {X : List Nat} {w w' : World} {B : Nat} (h : Keeps X w w') (hB : B ≤ w.heap.size) (hX : ∀ k ∈ X, B ≤ k) : Below B w w' :=
  ⟨h.os, h.tape, h.output, h.size, fun k hk => h.block k (by omega) (fun hh => by have := hX k hh; omega)⟩
theorem Keeps.drewN {X : List Nat} {a w : World} (h : Keeps X a w) (n : Nat) : Keeps X a (w.drewN n) := ⟨h.os, h.tape, h.output, h.size, h.block⟩

def upd (P : Nat → Int) (i : Nat) (p : Int) (j : Nat) : Int := if j = i then p else P j

/-- A transaction in memory: its own block T; its branches' array S, n of them. -/
structure Tx (w : World) (T S n : Nat) (s o : ByteArray) (l sd : Bool) (wv : Int) (dm : Bool) (K P W : Nat → Int) : Prop where
  ne : S ≠ T
  tx : w.heap[T]? = some (.cells #[.string s, .string o, .bool l, .bool sd, .int .i64 wv, .bool dm, .slice (some ⟨S, 0, none⟩) n n] 50 (0, 0))
  br : BrAt w S n K P W
  fz : ∀ j, w.frozen? ⟨S, j, none⟩ = false
  lt : S < w.heap.size

section
variable {w w' : World} {T S n : Nat} {s o : ByteArray} {l sd : Bool} {wv : Int} {dm : Bool} {K P W : Nat → Int}

theorem Tx.ltT (h : Tx w T S n s o l sd wv dm K P W) : T < w.heap.size := (Array.getElem?_eq_some_iff.1 h.tx).1

theorem Tx.cells (h : Tx w T S n s o l sd wv dm K P W) : w.cell? ⟨T, 0, none⟩ = some (.string s) ∧ w.cell? ⟨T, 1, none⟩ = some (.string o) ∧ w.cell? ⟨T, 2, none⟩ = some (.bool l) ∧ w.cell? ⟨T, 3, none⟩ = some (.bool sd) ∧
    w.cell? ⟨T, 4, none⟩ = some (.int .i64 wv) ∧ w.cell? ⟨T, 5, none⟩ = some (.bool dm) ∧ w.cell? ⟨T, 6, none⟩ = some (.slice (some ⟨S, 0, none⟩) n n) := by
  have := h.tx
  refine ⟨?_, ?_, ?_, ?_, ?_, ?_, ?_⟩ <;> simp [World.cell?, this]

theorem Tx.free (h : Tx w T S n s o l sd wv dm K P W) (i : Nat) : w.frozen? ⟨T, i, none⟩ = false := by
  simp [World.frozen?, h.tx]

theorem Tx.of_blocks (h : Tx w T S n s o l sd wv dm K P W) (hT : w'.heap[T]? = w.heap[T]?) (hS : w'.heap[S]? = w.heap[S]?) (hz : w.heap.size ≤ w'.heap.size) : Tx w' T S n s o l sd wv dm K P W := by
  refine ⟨h.ne, hT.trans h.tx, fun j hj => ?_, fun j => (World.frozen?_of_block (w := w) hS).trans (h.fz j), Nat.lt_of_lt_of_le h.lt hz⟩
  obtain ⟨b0, b1, b2⟩ := h.br j hj
  exact ⟨(World.cell?_of_block (w := w) hS).trans b0, (World.cell?_of_block (w := w) hS).trans b1, (World.cell?_of_block (w := w) hS).trans b2⟩

theorem Tx.keeps {X : List Nat} (h : Tx w T S n s o l sd wv dm K P W) (k : Keeps X w w') (hT : T ∉ X) (hS : S ∉ X) : Tx w' T S n s o l sd wv dm K P W :=
  h.of_blocks (k.block T h.ltT hT) (k.block S h.lt hS) k.size

theorem Tx.below (h : Tx w T S n s o l sd wv dm K P W) (k : Below w.heap.size w w') : Tx w' T S n s o l sd wv dm K P W :=
  h.of_blocks (k.block T h.ltT) (k.block S h.lt) k.size

theorem Tx.set0 (h : Tx w T S n s o l sd wv dm K P W) (s' : ByteArray) : Tx (w.setCell ⟨T, 0, none⟩ (.string s')) T S n s' o l sd wv dm K P W := by
  have hS : (w.setCell ⟨T, 0, none⟩ (.string s')).heap[S]? = w.heap[S]? := Below.heap_setCell _ _ _ _ h.ne
  refine ⟨h.ne, heap_setCell_same w T 0 _ 50 _ h.tx, fun j hj => ?_, fun j => (World.frozen?_of_block (w := w) hS).trans (h.fz j), by simpa using h.lt⟩
  obtain ⟨b0, b1, b2⟩ := h.br j hj
  exact ⟨(World.cell?_of_block (w := w) hS).trans b0, (World.cell?_of_block (w := w) hS).trans b1, (World.cell?_of_block (w := w) hS).trans b2⟩

theorem Tx.set1 (h : Tx w T S n s o l sd wv dm K P W) (o' : ByteArray) : Tx (w.setCell ⟨T, 1, none⟩ (.string o')) T S n s o' l sd wv dm K P W := by
  have hS : (w.setCell ⟨T, 1, none⟩ (.string o')).heap[S]? = w.heap[S]? := Below.heap_setCell _ _ _ _ h.ne
  refine ⟨h.ne, heap_setCell_same w T 1 _ 50 _ h.tx, fun j hj => ?_, fun j => (World.frozen?_of_block (w := w) hS).trans (h.fz j), by simpa using h.lt⟩
  obtain ⟨b0, b1, b2⟩ := h.br j hj
  exact ⟨(World.cell?_of_block (w := w) hS).trans b0, (World.cell?_of_block (w := w) hS).trans b1, (World.cell?_of_block (w := w) hS).trans b2⟩

theorem Tx.set4 (h : Tx w T S n s o l sd wv dm K P W) (v' : Int) : Tx (w.setCell ⟨T, 4, none⟩ (.int .i64 v')) T S n s o l sd v' dm K P W := by
  have hS : (w.setCell ⟨T, 4, none⟩ (.int .i64 v')).heap[S]? = w.heap[S]? := Below.heap_setCell _ _ _ _ h.ne
  refine ⟨h.ne, heap_setCell_same w T 4 _ 50 _ h.tx, fun j hj => ?_, fun j => (World.frozen?_of_block (w := w) hS).trans (h.fz j), by simpa using h.lt⟩
  obtain ⟨b0, b1, b2⟩ := h.br j hj
  exact ⟨(World.cell?_of_block (w := w) hS).trans b0, (World.cell?_of_block (w := w) hS).trans b1, (World.cell?_of_block (w := w) hS).trans b2⟩

theorem Tx.setP (h : Tx w T S n s o l sd wv dm K P W) (i : Nat) (hi : i < n) (p : Int) : Tx (w.setCell ⟨S, i * 3 + 1, none⟩ (.int .u8 p)) T S n s o l sd wv dm K (upd P i p) W := by
  have hT : (w.setCell ⟨S, i * 3 + 1, none⟩ (.int .u8 p)).heap[T]? = w.heap[T]? := Below.heap_setCell _ _ _ _ (fun e => h.ne e.symm)
  refine ⟨h.ne, hT.trans h.tx, fun j hj => ?_, fun j => by simpa using h.fz j, by simpa using h.lt⟩
  obtain ⟨b0, b1, b2⟩ := h.br j hj
  obtain ⟨c0, c1, c2⟩ := h.br i hi
  have ho : ∀ q, q ≠ i * 3 + 1 → (w.setCell ⟨S, i * 3 + 1, none⟩ (.int .u8 p)).cell? ⟨S, q, none⟩ = w.cell? ⟨S, q, none⟩ := fun q hq => by
    apply World.cell?_setCell_other
    intro e
    exact hq (by injection e with _ e2; exact e2.symm)
  refine ⟨(ho _ (by omega)).trans b0, ?_, (ho _ (by omega)).trans b2⟩
  by_cases e : j = i
  · subst e
    simp only [upd, if_true]
    exact World.cell?_setCell_same _ _ _ c1
  · simp only [upd, if_neg e]
    exact (ho _ (by omega)).trans b1
end

/-- allFinished. -/
theorem allFin (T S n : Nat) (s o : ByteArray) (l sd : Bool) (wv : Int) (dm : Bool) (K P W : Nat → Int) (w : World) (hn : n ≤ 4096) (h : Tx w T S n s o l sd wv dm K P W) :
    Calls Try.prog 25 #[.pointer (some ⟨T, 0, none⟩)] w fun e w' => e = .returned (.bool (!anyUp n (bUnf P))) ∧ Below w.heap.size w w' := by
  obtain ⟨c0, c1, c2, c3, c4, c5, c6⟩ := h.cells
  have HB : Hid (BrAt w S n K P W) := h.br
  clear h c0 c1 c2 c3 c4 c5
  go_enter Try.func25, Try.ntmps25
  go_wp2_with (go_at_call 18; refine (any28 S n K P W _ hn HB.out).mono ?_; rintro e w1 ⟨rfl, hb⟩)
  go_ret
  exact ⟨rfl, hb⟩

/-- anyBranch(enlisted). -/
theorem anyNone (T S n : Nat) (s o : ByteArray) (l sd : Bool) (wv : Int) (dm : Bool) (K P W : Nat → Int) (w : World) (hn : n ≤ 4096) (h : Tx w T S n s o l sd wv dm K P W) :
    Calls Try.prog 23 #[.pointer (some ⟨T, 0, none⟩), .int .u8 0, .slice none 0 0] w fun e w' => e = .returned (.bool (anyUp n (bEnl P))) ∧ Below w.heap.size w w' := by
  obtain ⟨c0, c1, c2, c3, c4, c5, c6⟩ := h.cells
  have hT := h.ltT
  have c6' : ∀ p q, ((w.alloc p).alloc q).cell? ⟨T, 6, none⟩ = some (.slice (some ⟨S, 0, none⟩) n n) := fun p q => by
    rw [World.cell?_alloc_lt _ _ _ (by simp; omega), World.cell?_alloc_lt _ _ _ hT]; exact c6
  have HB : Hid (∀ p q, BrAt ((w.alloc p).alloc q) S n K P W) := fun p q => (h.below (((Below.refl _ _).alloc (Nat.le_refl _) _).alloc (by simp) _)).br
  clear h c0 c1 c2 c3 c4 c5
  go_enter Try.func23, Try.ntmps23
  go_wp2_with (go_at_call 18; refine (any26n S n w.heap.size (w.heap.size + 1) K P W _ hn (HB.out _ _) (by simp [go_sem]) (by simp [go_sem])).mono ?_; rintro e w1 ⟨rfl, hb⟩)
  go_ret
  exact ⟨rfl, (((Below.refl _ _).alloc (Nat.le_refl _) _).alloc (by simp) _).trans (hb.mono (by simp; omega))⟩

/-- anyBranch(enlisted, PhaseZero). -/
theorem anyOne (T S n G : Nat) (s o : ByteArray) (l sd : Bool) (wv : Int) (dm : Bool) (K P W : Nat → Int) (w : World) (hn : n ≤ 4096) (h : Tx w T S n s o l sd wv dm K P W) (hG : w.cell? ⟨G, 0, none⟩ = some (.int .u8 3)) :
    Calls Try.prog 23 #[.pointer (some ⟨T, 0, none⟩), .int .u8 0, .slice (some ⟨G, 0, none⟩) 1 1] w fun e w' => e = .returned (.bool (anyUp n (bPZ K P))) ∧ Below w.heap.size w w' := by
  obtain ⟨c0, c1, c2, c3, c4, c5, c6⟩ := h.cells
  have hT := h.ltT
  have lG : G < w.heap.size := World.block_lt_of_cell? w _ hG
  have c6' : ∀ p q, ((w.alloc p).alloc q).cell? ⟨T, 6, none⟩ = some (.slice (some ⟨S, 0, none⟩) n n) := fun p q => by
    rw [World.cell?_alloc_lt _ _ _ (by simp; omega), World.cell?_alloc_lt _ _ _ hT]; exact c6
  have HG : Hid (∀ p q, ((w.alloc p).alloc q).cell? ⟨G, 0, none⟩ = some (.int .u8 3)) := fun p q => by
    rw [World.cell?_alloc_lt _ _ _ (by simp; omega), World.cell?_alloc_lt _ _ _ lG]; exact hG
  have HB : Hid (∀ p q, BrAt ((w.alloc p).alloc q) S n K P W) := fun p q => (h.below (((Below.refl _ _).alloc (Nat.le_refl _) _).alloc (by simp) _)).br
  clear h c0 c1 c2 c3 c4 c5 hG
  go_enter Try.func23, Try.ntmps23
  go_wp2_with (go_at_call 18; refine (any26o S n w.heap.size (w.heap.size + 1) G K P W _ hn (HB.out _ _) (by simp [go_sem]) (by simp [go_sem]) (HG.out _ _)).mono ?_; rintro e w1 ⟨rfl, hb⟩)
  go_ret
  exact ⟨rfl, (((Below.refl _ _).alloc (Nat.le_refl _) _).alloc (by simp) _).trans (hb.mono (by simp; omega))⟩

/-- inPhaseZero, of a preparing transaction. -/
theorem inPZ (T S n : Nat) (o : ByteArray) (l sd : Bool) (wv : Int) (dm : Bool) (K P W : Nat → Int) (w : World) (hn : n ≤ 4096) (h : Tx w T S n sPrep o l sd wv dm K P W) :
    Calls Try.prog 22 #[.pointer (some ⟨T, 0, none⟩)] w fun e w' => e = .returned (.bool (anyUp n (bPZ K P))) ∧ Below w.heap.size w w' := by
  obtain ⟨c0, c1, c2, c3, c4, c5, c6⟩ := h.cells
  unfold sPrep at c0
  have HT : Hid (∀ p, Tx (w.alloc p) T S n sPrep o l sd wv dm K P W) := fun p => h.below ((Below.refl _ _).alloc (Nat.le_refl _) _)
  clear h c1 c2 c3 c4 c5
  go_enter Try.func22, Try.ntmps22
  go_wp2_with (go_at_call 23; refine (anyOne T S n w.heap.size sPrep o l sd wv dm K P W _ hn (HT.out _) (by simp [go_sem])).mono ?_; rintro e w1 ⟨rfl, hb⟩)
  go_ret
  exact ⟨rfl, ((Below.refl _ _).alloc (Nat.le_refl _) _).trans (hb.mono (by simp))⟩

/-- decide. -/
theorem decide_any (T S n : Nat) (s o oc : ByteArray) (l sd : Bool) (wv : Int) (dm : Bool) (K P W : Nat → Int) (w : World) (hn : n ≤ 4096) (h : Tx w T S n s o l sd wv dm K P W) :
    Calls Try.prog 21 #[.pointer (some ⟨T, 0, none⟩), .string oc] w fun e w' => e = .returned (.tuple #[]) ∧ Tx w' T S n (endOf n P) oc l sd wv dm K P W ∧ Keeps [T] w w' := by
  obtain ⟨c0, c1, c2, c3, c4, c5, c6⟩ := h.cells
  have f0 := h.free 0
  have f1 := h.free 1
  have H1 := h.set1 oc
  have H2 := H1.set0 sFin
  have k1 : Keeps [T] w (w.setCell ⟨T, 1, none⟩ (.string oc)) := Keeps.set _ _ (by simp) _
  have k2 : Keeps [T] w ((w.setCell ⟨T, 1, none⟩ (.string oc)).setCell ⟨T, 0, none⟩ (.string sFin)) := k1.trans (Keeps.set _ _ (by simp) _)
  have HX : Hid (Tx ((w.setCell ⟨T, 1, none⟩ (.string oc)).setCell ⟨T, 0, none⟩ (.string sFin)) T S n sFin oc l sd wv dm K P W ∧ Keeps [T] w ((w.setCell ⟨T, 1, none⟩ (.string oc)).setCell ⟨T, 0, none⟩ (.string sFin))) := ⟨H2, k2⟩
  clear h H1 H2 k1 k2
  unfold sFin at HX
  have hend : endOf n P = if anyUp n (bUnf P) = true then sFin else sEnd := rfl
  have HE : Hid (endOf n P = if anyUp n (bUnf P) = true then sFin else sEnd) := hend
  clear hend
  cases hu : anyUp n (bUnf P)
  · have HU : Hid (anyUp n (bUnf P) = false) := hu
    clear hu
    go_enter Try.func21, Try.ntmps21
    go_wp2_with (go_at_call 25; refine (allFin T S n _ oc l sd wv dm K P W _ hn HX.out.1).mono ?_; rintro e w1 ⟨rfl, hb⟩; rw [HU.out]; have t1 := HX.out.1.below hb; have d0 := t1.cells.1; have g0 := t1.free 0)
    go_end0
    refine ⟨rfl, ?_, (HX.out.2.trans (Keeps.of_below hb)).trans (Keeps.set _ _ (by simp) _)⟩
    rw [HE.out, HU.out]
    exact t1.set0 sEnd
  · have HU : Hid (anyUp n (bUnf P) = true) := hu
    clear hu
    go_enter Try.func21, Try.ntmps21
    go_wp2_with (go_at_call 25; refine (allFin T S n _ oc l sd wv dm K P W _ hn HX.out.1).mono ?_; rintro e w1 ⟨rfl, hb⟩; rw [HU.out]; have t1 := HX.out.1.below hb)
    go_end0
    refine ⟨rfl, ?_, HX.out.2.trans (Keeps.of_below hb)⟩
    rw [HE.out, HU.out]
    exact t1
end Go.Proofs.Qxb6606013a
