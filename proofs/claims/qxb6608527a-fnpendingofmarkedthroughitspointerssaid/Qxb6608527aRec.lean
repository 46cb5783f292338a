import Derived.Test.Qxb6608527aSmall
namespace Go.Proofs.Qxb6608527a
open Go.ChangeShapes Go.WideShapes Go.ChangeAt Go.RowKit
set_option linter.unusedVariables false

section
variable (S : Nat → ByteArray)
theorem pl_at : ∀ {n i : Nat}, i < n → S i = pend → (pl S i).length < (pl S n).length ∧ (pl S n).getD (pl S i).length 0 = i := by
  intro n
  induction n with
  | zero => intro i hi; omega
  | succ n ih =>
    intro i hi hp
    by_cases e : i = n
    · subst e
      simp only [pl, hp, if_true, List.length_append, List.getD_eq_getElem?_getD]
      simp
    · obtain ⟨h1, h2⟩ := ih (by omega) hp
      simp only [pl, List.length_append]
      refine ⟨by omega, ?_⟩
      rw [List.getD_eq_getElem?_getD, List.getElem?_append_left h1, ← List.getD_eq_getElem?_getD, h2]
theorem pl_idx : ∀ {n k : Nat}, k < (pl S n).length → (pl S n).getD k 0 < n ∧ S ((pl S n).getD k 0) = pend ∧ (pl S ((pl S n).getD k 0)).length = k := by
  intro n
  induction n with
  | zero => intro k hk; simp [pl] at hk
  | succ n ih =>
    intro k hk
    by_cases h : k < (pl S n).length
    · obtain ⟨h1, h2, h3⟩ := ih h
      have e : (pl S (n + 1)).getD k 0 = (pl S n).getD k 0 := by
        simp only [pl]
        rw [List.getD_eq_getElem?_getD, List.getElem?_append_left h, ← List.getD_eq_getElem?_getD]
      rw [e]
      exact ⟨by omega, h2, h3⟩
    · by_cases hp : S n = pend
      · have hl : (pl S (n + 1)).length = (pl S n).length + 1 := by simp [pl, hp]
        obtain rfl : k = (pl S n).length := by omega
        obtain ⟨_, h2⟩ := pl_at S (n := n + 1) (i := n) (by omega) hp
        rw [h2]
        exact ⟨by omega, hp, rfl⟩
      · have hl : (pl S (n + 1)).length = (pl S n).length := by simp [pl, hp]
        omega
theorem pl_all : ∀ {n : Nat}, (∀ i, i < n → S i = pend) → pl S n = List.range n := by
  intro n
  induction n with
  | zero => intro _; rfl
  | succ n ih => intro h; rw [List.range_succ, ← ih (fun i hi => h i (by omega))]; simp [pl, h n (by omega)]
theorem pl_none : ∀ {n : Nat}, (∀ i, i < n → S i ≠ pend) → pl S n = [] := by
  intro n
  induction n with
  | zero => intro _; rfl
  | succ n ih => intro h; simp [pl, h n (by omega), ih (fun i hi => h i (by omega))]
end

/-- A recipient's cells. -/
def rc (a s : ByteArray) : List Value := [.string a, .string s, .string ⟨#[]⟩, .string ⟨#[]⟩, .int .u64 0, .int .i64 0, .pointer none, .int .i64 0]

theorem Try.info40 : (Try.prog.info? 40).map (fun i => (i.zero, i.size, i.bytes)) = some (some (.agg #[.string ⟨#[]⟩, .string ⟨#[]⟩, .string ⟨#[]⟩, .string ⟨#[]⟩, .int .u64 0, .int .i64 0, .pointer none, .int .i64 0]), 8, 96) := by kernel_rfl
theorem Try.size40 : (Try.prog.info? 40).map (·.size) = some 8 := by kernel_rfl
theorem Try.info41 : (Try.prog.info? 41).map (fun i => (i.zero, i.size, i.bytes)) = some (some (.pointer none), 1, 8) := by kernel_rfl

/-- The row of recipients in block g: room for n, the first k as they should be. -/
structure Row (w : World) (g n k : Nat) (A S : Nat → ByteArray) : Prop where
  rng : ∀ i, i < k → w.rangeAt g (i * 8) (rc (A i) (S i))
  thr : w.there g 0 (n * 8)

theorem rangeAt_later {w w' : World} {g o : Nat} {cs : List Value} (h : w.rangeAt g o cs) (hb : Below w.heap.size w w') : w'.rangeAt g o cs := fun j v hv => cell_later hb (h j v hv)
theorem there_blk {w w' : World} {g o n : Nat} (h : w.there g o n) (hb : w'.heap[g]? = w.heap[g]?) : w'.there g o n := fun j hj => by
  obtain ⟨h1, h2⟩ := h j hj
  exact ⟨by rw [World.cell?_of_block (w := w) hb]; exact h1, by rw [World.frozen?_of_block (w := w) hb]; exact h2⟩
theorem there_later {w w' : World} {g o n : Nat} (h : w.there g o n) (hb : Below w.heap.size w w') : w'.there g o n := fun j hj => by
  obtain ⟨h1, h2⟩ := h j hj
  obtain ⟨u, hu⟩ := Option.isSome_iff_exists.1 h1
  have e := hb.block g (World.block_lt_of_cell? w _ hu)
  exact ⟨by rw [World.cell?_of_block (w := w) e]; exact h1, by rw [World.frozen?_of_block (w := w) e]; exact h2⟩
theorem there_sub {w : World} {g n o m : Nat} (h : w.there g 0 n) (hs : o + m ≤ n) : w.there g o m := fun j hj => by
  have := h (o + j) (by omega)
  rwa [Nat.zero_add] at this

section
variable {w w' : World} {g n k : Nat} {A S : Nat → ByteArray}
theorem Row.below (h : Row w g n k A S) (hb : Below w.heap.size w w') : Row w' g n k A S := ⟨fun i hi => rangeAt_later (h.rng i hi) hb, there_later h.thr hb⟩
theorem Row.drewN (h : Row w g n k A S) (m : Nat) : Row (w.drewN m) g n k A S := h.below (below_drewN (Below.refl _ _) _)
theorem Row.store (h : Row w g n k A S) (hk : k < n) : Row (w.setCells g (k * 8) (rc (A k) (S k))) g n (k + 1) A S := by
  refine ⟨fun i hi => ?_, World.there_setCells h.thr _ _ _⟩
  by_cases e : i = k
  · subst e
    exact World.rangeAt_setCells_same _ _ _ _ (there_sub h.thr (by show i * 8 + 8 ≤ _; omega))
  · exact World.rangeAt_setCells_apart (h.rng i (by omega)) _ _ _ (by right; left; show i * 8 + 8 ≤ _; omega)
theorem Row.lt (h : Row w g n k A S) (hn : 0 < n) : g < w.heap.size := by
  obtain ⟨u, hu⟩ := Option.isSome_iff_exists.1 (h.thr 0 (by omega)).1
  exact World.block_lt_of_cell? w _ hu
/-- What the walk reads of recipient i. -/
theorem Row.cells (h : Row w g n k A S) {i : Nat} (hi : i < k) : w.cell? ⟨g, i * 8, none⟩ = some (.string (A i)) ∧ w.cell? ⟨g, i * 8 + 1, none⟩ = some (.string (S i)) := ⟨h.rng i hi 0 _ rfl, h.rng i hi 1 _ rfl⟩
theorem Row.load (h : Row w g n k A S) {i : Nat} (hi : i < k) : (Instr.loadAt 40 (.pointer (some ⟨g, i * 8, none⟩))).run Try.prog w = .ok (.agg #[.string (A i), .string (S i), .string ⟨#[]⟩, .string ⟨#[]⟩, .int .u64 0, .int .i64 0, .pointer none, .int .i64 0]) w :=
  run_loadAt_mid w g (i * 8) 40 (rc (A i) (S i)) _ (h.rng i hi) Try.underlying40 rfl Try.size40
end
theorem setCells_below {w w0 : World} {B g o : Nat} {vs : List Value} (h : Below B w0 w) (hg : B ≤ g) : Below B w0 (w.setCells g o vs) := by
  induction vs generalizing o w with
  | nil => exact h
  | cons v r ih => exact ih (h.setCell (by exact hg) v)

/-- make([]spool.Recipient, n). -/
theorem run_make_recs (w : World) (n : Nat) (hn : n ≤ 65536) : ∃ z, (Instr.makeSlice 33 (.int .i64 n) (.int .i64 n)).run Try.prog w = .ok (.slice (some ⟨w.heap.size, 0, none⟩) n n) (w.alloc (.cells (madeCells z (n * 8)) 40)) := by
  obtain ⟨i0, hi, hz0, hz1, hz2⟩ := info_parts Try.info40
  have := run_make (P := Try.prog) w 33 40 i0 _ Try.underlying33 hi hz0 .i64 .i64 n n (by omega) (by omega) (by rw [hz2]; omega) (by omega)
  rw [hz1] at this
  exact ⟨_, this⟩
theorem there_of_block {w : World} {g : Nat} {c : Array Value} {t : TypeId} (hb : w.heap[g]? = some (.cells c t (0, 0))) : w.there g 0 c.size := fun j hj => by
  constructor
  · simp [World.cell?, hb, hj]
  · simp [World.frozen?, hb]
theorem Row.made (w : World) (z : Array Value) (n : Nat) (A S : Nat → ByteArray) : Row (w.alloc (.cells (madeCells z (n * 8)) 40)) w.heap.size n 0 A S := by
  refine ⟨fun i hi => by omega, ?_⟩
  have := there_of_block (heap_alloc_new w (.cells (madeCells z (n * 8)) 40))
  rwa [size_madeCells] at this
end Go.Proofs.Qxb6608527a
