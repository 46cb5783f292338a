import Derived.Test.Qxb6606013aEarly
namespace Go.Proofs.Qxb6606013a
open Go.ChangeShapes Go.WideShapes Go.ChangeAt Go.RowKit
set_option linter.unusedVariables false

/-- What the second loop has laid behind k rounds: the members in block g, the final progress in block g2; below g nothing has turned. -/
structure St (K P W A : Nat → Int) (wv : Int) (n g g2 : Nat) (w4 wr : World) (k : Nat) : Prop where
  own : wr.ownsRow g 3 1 (.slice (some ⟨g, 0, none⟩) (mems K P W wv k).length n) (mems K P W wv k).length ((mems K P W wv k).map fun (j : Nat) => Value.int .i64 (j : Int))
  row : wr.rowIs g2 5 n (fun j => if j < k then .int .u8 (if mem K P W wv j = true then A j else P j) else .int .u8 0)
  bel : Below g w4 wr
  lt : g < g2

section
variable {K P W A : Nat → Int} {wv : Int} {n g g2 : Nat} {w4 wr : World} {k : Nat}

theorem owns_block {w w' : World} {base e size n cap : Nat} {g : Nat} {xs : List Value} (h : w.ownsRow base e size (.slice (some ⟨g, 0, none⟩) n cap) n xs) (hb : w'.heap[g]? = w.heap[g]?) : w'.ownsRow base e size (.slice (some ⟨g, 0, none⟩) n cap) n xs := by
  refine ⟨h.1, ?_⟩
  rcases h.2 with ⟨h', _⟩ | ⟨g', cap', cur, hv, hg, hh, r⟩
  · simp at h'
  · simp only [Value.slice.injEq, Option.some.injEq, Addr.mk.injEq, and_true, true_and] at hv
    obtain ⟨rfl, rfl⟩ := hv
    exact .inr ⟨g, cap, cur, rfl, hg, hb.trans hh, r⟩

theorem St.no (h : St K P W A wv n g g2 w4 wr k) (hm : mem K P W wv k = false) : St K P W A wv n g g2 w4 (wr.setCell ⟨g2, k, none⟩ (.int .u8 (P k))) (k + 1) := by
  have hlt := h.lt
  refine ⟨?_, ?_, h.bel.setCell (by simp; omega) _, h.lt⟩
  · rw [mems_no hm]
    exact owns_block h.own (Below.heap_setCell _ _ _ _ (by simp; omega))
  · refine (h.row.set k _).congr fun i _ => ?_
    by_cases e : i = k
    · subst e; simp [hm]
    · by_cases l : i < k
      · simp [e, l, show i < k + 1 by omega]
      · simp [e, l, show ¬ i < k + 1 by omega]

theorem St.bel2 (h : St K P W A wv n g g2 w4 wr k) {w2 : World} (hgr : ((wr.setCell ⟨g2, k, none⟩ (.int .u8 (P k))).alloc (.cells #[.int .i64 (k : Int)] 3)).grownBy w2 (some g)) (hg : g ≤ wr.heap.size) : Below g w4 w2 := by
  have hlt := h.lt
  refine Below.grown ((h.bel.setCell (p := ⟨g2, k, none⟩) (by simp; omega) _).alloc (by simpa using hg) _) hgr (by simp; omega) (by simp)

theorem St.row2 (h : St K P W A wv n g g2 w4 wr k) {w2 : World} (hgr : ((wr.setCell ⟨g2, k, none⟩ (.int .u8 (P k))).alloc (.cells #[.int .i64 (k : Int)] 3)).grownBy w2 (some g)) :
    w2.rowIs g2 5 n (fun j => if j = k then .int .u8 (P k) else if j < k then .int .u8 (if mem K P W wv j = true then A j else P j) else .int .u8 0) := by
  have hlt := h.lt
  have h1 := (h.row.set k (.int .u8 (P k))).alloc (.cells #[.int .i64 (k : Int)] 3)
  exact h1.of_block (hgr.block g2 h1.lt (by simp; omega))

theorem St.yes (h : St K P W A wv n g g2 w4 wr k) (hm : mem K P W wv k = true) (hg : g ≤ wr.heap.size) {w2 : World}
    (hown : w2.ownsRow g 3 1 (.slice (some ⟨g, 0, none⟩) ((mems K P W wv k).length + 1) n) ((mems K P W wv k).length + 1) (((mems K P W wv k).map fun (j : Nat) => Value.int .i64 (j : Int)) ++ [.int .i64 (k : Int)]))
    (hgr : ((wr.setCell ⟨g2, k, none⟩ (.int .u8 (P k))).alloc (.cells #[.int .i64 (k : Int)] 3)).grownBy w2 (some g)) :
    St K P W A wv n g g2 w4 (w2.setCell ⟨g2, k, none⟩ (.int .u8 (A k))) (k + 1) := by
  have hlt := h.lt
  refine ⟨?_, ?_, (h.bel2 hgr hg).setCell (by simp; omega) _, h.lt⟩
  · rw [mems_yes hm]
    simp only [List.length_append, List.length_cons, List.length_nil, List.map_append, List.map_cons, List.map_nil, Nat.zero_add]
    exact owns_block hown (Below.heap_setCell _ _ _ _ (by simp; omega))
  · refine ((h.row2 hgr).set k _).congr fun i _ => ?_
    by_cases e : i = k
    · subst e; simp [hm]
    · by_cases l : i < k
      · simp [e, l, show i < k + 1 by omega]
      · simp [e, l, show ¬ i < k + 1 by omega]

/-- Behind the loop: the members and the final progress, as readings. -/
theorem St.members (h : St K P W A wv n g g2 w4 wr n) : Reads .i64 wr (some ⟨g, 0, none⟩) (mems K P W wv n).length (fun j => ((mems K P W wv n).getD j 0 : Nat)) :=
  Or.inr ⟨g, 0, rfl, fun j hj => by
    rw [Nat.zero_add, h.own.cellAt j (by omega)]
    simp [hj]⟩
theorem St.final (h : St K P W A wv n g g2 w4 wr n) : Reads .u8 wr (some ⟨g2, 0, none⟩) n (pg A P (mems K P W wv n)) :=
  Or.inr ⟨g2, 0, rfl, fun j hj => by
    rw [Nat.zero_add, h.row.cell hj, pg_final hj]
    simp [hj]⟩
end

theorem Tx.drew {w : World} {T S n : Nat} {s o : ByteArray} {l sd : Bool} {wv : Int} {dm : Bool} {K P W : Nat → Int} (h : Tx w T S n s o l sd wv dm K P W) : Tx w.drew T S n s o l sd wv dm K P W := ⟨h.ne, h.tx, h.br, h.fz, h.lt⟩
theorem Tx.drewN {w : World} {T S n : Nat} {s o : ByteArray} {l sd : Bool} {wv : Int} {dm : Bool} {K P W : Nat → Int} (h : Tx w T S n s o l sd wv dm K P W) (m : Nat) : Tx (w.drewN m) T S n s o l sd wv dm K P W := ⟨h.ne, h.tx, h.br, h.fz, h.lt⟩
theorem Keeps.drew {X : List Nat} {a w : World} (h : Keeps X a w) : Keeps X a w.drew := ⟨h.os, h.tape, h.output, h.size, h.block⟩
theorem Keeps.cell {X : List Nat} {w w' : World} (h : Keeps X w w') {a : Addr} {v : Value} (hc : w.cell? a = some v) (hx : a.block ∉ X) : w'.cell? a = some v :=
  (World.cell?_of_block (w := w) (h.block a.block (World.block_lt_of_cell? w _ hc) hx)).trans hc

/-- The head of the transaction behind k of the m answers. -/
def headUp (o : ByteArray) (wv : Int) (want : ByteArray × ByteArray × Int) (m k : Nat) : ByteArray × ByteArray × Int := if k < m then (sPrep, o, wv) else want
theorem headUp_lt {o : ByteArray} {wv : Int} {want : ByteArray × ByteArray × Int} {m k : Nat} (h : k < m) : headUp o wv want m k = (sPrep, o, wv) := if_pos h
theorem headUp_ge {o : ByteArray} {wv : Int} {want : ByteArray × ByteArray × Int} {m k : Nat} (h : ¬ k < m) : headUp o wv want m k = want := if_neg h
def headDn (o : ByteArray) (wv : Int) (want : ByteArray × ByteArray × Int) (q : Nat) : ByteArray × ByteArray × Int := if 0 < q then (sPrep, o, wv) else want
theorem headDn_pos {o : ByteArray} {wv : Int} {want : ByteArray × ByteArray × Int} {q : Nat} (h : 0 < q) : headDn o wv want q = (sPrep, o, wv) := if_pos h
theorem headDn_zero {o : ByteArray} {wv : Int} {want : ByteArray × ByteArray × Int} : headDn o wv want 0 = want := if_neg (by omega)
end Go.Proofs.Qxb6606013a
