import Derived.Test.Qxb6608526aFmtPush
namespace Go.Proofs.Qxb6608526aFmt
open Go.ChangeShapes Go.WideShapes Go.ChangeAt Go.RowKit
set_option linter.unusedVariables false

/-- ZZnewOpenNames. -/
theorem newNames (base : Nat) (S L : Nat → ByteArray) (w : World) (hb : base ≤ w.heap.size) : Calls Tryf.prog 8 #[] w fun e w' => e = .returned (.pointer (some ⟨w.heap.size, 0, none⟩)) ∧ ON w' base w.heap.size 0 S L (.slice none 0 0) (.slice none 0 0) ∧ Below w.heap.size w w' := by
  go_enter Tryf.func8, Tryf.ntmps8
  go_wp2
  go_ret
  exact ⟨rfl, ⟨heap_alloc_new w _, World.ownsRow_nil _ _ _ _, World.ownsRow_nil _ _ _ _, hb⟩, (Below.refl _ _).alloc (Nat.le_refl _) _⟩

/-- ZZopenCount. -/
theorem openCount (base O k : Nat) (S L : Nat → ByteArray) (vO vT : Value) (w : World) (h : ON w base O k S L vO vT) : Calls Tryf.prog 10 #[.pointer (some ⟨O, 0, none⟩)] w fun e w' => e = .returned (.int .i64 k) ∧ w = w' := by
  obtain ⟨a, c, hv⟩ := own_slice h.own
  have c0 := h.cells.1
  rw [hv] at c0
  clear h hv
  go_enter Tryf.func10, Tryf.ntmps10
  go_wp2
  go_ret
  exact ⟨rfl, rfl⟩

/-- ZZlongSize. -/
theorem longSize (base O k : Nat) (S L : Nat → ByteArray) (vO vT : Value) (w : World) (hsp : sp S L k ≤ 4194304) (h : ON w base O k S L vO vT) : Calls Tryf.prog 15 #[.pointer (some ⟨O, 0, none⟩)] w fun e w' => e = .returned (.int .i64 (sp S L k : Nat)) ∧ ∃ m, w' = w.drewN m := by
  obtain ⟨a, c, hv⟩ := own_slice h.top
  have c2 := h.cells.2.2.1
  have c3 := h.cells.2.2.2.1
  rw [hv] at c3
  have HC : Hid (w.cell? ⟨O, 2, none⟩ = some (.int .i64 0) ∧ w.cell? ⟨O, 3, none⟩ = some (.slice a (sp S L k) c)) := ⟨c2, c3⟩
  clear h hv c2 c3
  go_enter Tryf.func15, Tryf.ntmps15
  go_wp2_with (go_at_call 21; refine (size_any O a (sp S L k) c _ hsp HC.out.1 HC.out.2).mono ?_; rintro e w1 ⟨rfl, m, rfl⟩)
  go_ret
  exact ⟨rfl, m, rfl⟩

/-- The fields of an open entry. -/
def eSpace (S L : Nat → ByteArray) (i : Nat) : ByteArray := if 64 < wl (S i) (L i) then ⟨#[]⟩ else S i
def eLocal (S L : Nat → ByteArray) (i : Nat) : ByteArray := if 64 < wl (S i) (L i) then ⟨#[]⟩ else L i
def eLong (S L : Nat → ByteArray) (i : Nat) : Bool := decide (64 < wl (S i) (L i))
def eAt (S L : Nat → ByteArray) (i : Nat) : Int := if 64 < wl (S i) (L i) then (sp S L i : Nat) else 0

theorem ON.entry {w : World} {base O k : Nat} {S L : Nat → ByteArray} {vO vT : Value} (h : ON w base O k S L vO vT) {i : Nat} (hi : i < k) :
    ∃ g c, vO = .slice (some ⟨g, 0, none⟩) k c ∧ w.cell? ⟨g, i * 4, none⟩ = some (.string (eSpace S L i)) ∧ w.cell? ⟨g, i * 4 + 1, none⟩ = some (.string (eLocal S L i)) ∧ w.cell? ⟨g, i * 4 + 2, none⟩ = some (.bool (eLong S L i)) ∧ w.cell? ⟨g, i * 4 + 3, none⟩ = some (.int .i64 (eAt S L i)) := by
  obtain ⟨g, c, hv, _, _⟩ := h.own.form (by omega)
  have ho := h.own
  rw [hv] at ho
  obtain ⟨h1, h2⟩ := ecells_at S L hi
  refine ⟨g, c, hv, ?_⟩
  rw [ho.cellAt _ (by omega), ho.cellAt _ (by omega), ho.cellAt _ (by omega), ho.cellAt _ (by omega)]
  by_cases hw : 64 < wl (S i) (L i)
  · obtain ⟨q0, q1, q2, q3⟩ := h1 hw
    rw [q0, q1, q2, q3]
    simp [eSpace, eLocal, eLong, eAt, hw]
  · obtain ⟨q0, q1, q2, q3⟩ := h2 hw
    rw [q0, q1, q2, q3]
    simp [eSpace, eLocal, eLong, eAt, hw]

/-- ZZopenEntry. -/
theorem openEntry (base O k i : Nat) (S L : Nat → ByteArray) (vO vT : Value) (w : World) (hk : k ≤ 1048576) (hi : i < k) (h : ON w base O k S L vO vT) :
    Calls Tryf.prog 11 #[.pointer (some ⟨O, 0, none⟩), .int .i64 i] w fun e w' => e = .returned (.tuple #[.string (eSpace S L i), .string (eLocal S L i), .bool (eLong S L i), .int .i64 (eAt S L i)]) ∧ Below w.heap.size w w' := by
  obtain ⟨g, c, hv, b0, b1, b2, b3⟩ := h.entry hi
  have c0 := h.cells.1
  rw [hv] at c0
  have hO := h.ltO
  have hg := World.block_lt_of_cell? w _ b0
  clear h hv
  generalize eSpace S L i = es at *
  generalize eLocal S L i = el at *
  generalize eLong S L i = eb at *
  generalize eAt S L i = ea at *
  go_enter Tryf.func11, Tryf.ntmps11
  go_wp2
  go_quiet (fail)
  go_wp2
  exact bodyPost_ret (v := .tuple #[.string es, .string el, .bool eb, .int .i64 ea]) (by simp [results, Tryf.results11, go_sem]) rfl ⟨rfl, below_drewN ((Below.refl _ _).alloc (Nat.le_refl _) _) _⟩
end Go.Proofs.Qxb6608526aFmt
