import Derived.Test.Qxb6608526aFmtApp
namespace Go.Proofs.Qxb6608526aFmt
open Go.ChangeShapes Go.WideShapes Go.ChangeAt Go.RowKit
set_option linter.unusedVariables false
attribute [local go_sem ↓] Go.wp_at_zero Go.wp_at_succ

/-- The openNames in block O, behind k pushes of the names (S 0, L 0), (S 1, L 1), ..; vO, vT: its two slices. -/
structure ON (w : World) (base O k : Nat) (S L : Nat → ByteArray) (vO vT : Value) : Prop where
  blk : w.heap[O]? = some (.cells #[vO, .nilIface, .int .i64 0, vT, .nilIface, .slice none 0 0] 49 (0, 0))
  own : w.ownsRow base 54 4 vO k (ecells S L k)
  top : w.ownsRow base 5 1 vT (sp S L k) (cells (tb S L k))
  hb : base ≤ O

/-- The blocks of an openNames. -/
def foot (O : Nat) (vO vT : Value) : List Nat := O :: (vO.ownBlock.toList ++ vT.ownBlock.toList)

theorem own_slice {w : World} {base e size n : Nat} {v : Value} {xs : List Value} (h : w.ownsRow base e size v n xs) : ∃ a c, v = .slice a n c := by
  rcases h.2 with ⟨rfl, rfl⟩ | ⟨g, cap, _, rfl, _⟩
  · exact ⟨none, 0, rfl⟩
  · exact ⟨_, _, rfl⟩
theorem own_type {w : World} {base e size n : Nat} {v : Value} {xs : List Value} (h : w.ownsRow base e size v n xs) {g : Nat} (hg : v.ownBlock = some g) : ∃ cur, w.heap[g]? = some (.cells cur e (0, 0)) := by
  rcases h.2 with ⟨rfl, _⟩ | ⟨g', cap, cur, rfl, _, hh, _⟩
  · simp [Value.ownBlock] at hg
  · simp [Value.ownBlock] at hg; subst hg; exact ⟨cur, hh⟩
theorem own_blk {w w' : World} {base e size n : Nat} {v : Value} {xs : List Value} (h : w.ownsRow base e size v n xs) (hk : ∀ g, v.ownBlock = some g → w'.heap[g]? = w.heap[g]?) : w'.ownsRow base e size v n xs := by
  refine ⟨h.1, ?_⟩
  rcases h.2 with hn | ⟨g, cap, cur, rfl, hg, hh, r⟩
  · exact .inl hn
  · exact .inr ⟨g, cap, cur, rfl, hg, (hk g rfl).trans hh, r⟩

section
variable {w w' : World} {base O k : Nat} {S L : Nat → ByteArray} {vO vT : Value}

theorem ON.ltO (h : ON w base O k S L vO vT) : O < w.heap.size := (Array.getElem?_eq_some_iff.1 h.blk).1
theorem ON.neO (h : ON w base O k S L vO vT) : ¬ vO.ownBlock = some O := fun e => by
  obtain ⟨cur, hc⟩ := own_type h.own e
  rw [h.blk] at hc; simp at hc
theorem ON.neT (h : ON w base O k S L vO vT) : ¬ vT.ownBlock = some O := fun e => by
  obtain ⟨cur, hc⟩ := own_type h.top e
  rw [h.blk] at hc; simp at hc
theorem ON.neOT (h : ON w base O k S L vO vT) (g : Nat) (h1 : vO.ownBlock = some g) : ¬ vT.ownBlock = some g := fun e => by
  obtain ⟨cur, hc⟩ := own_type h.own h1
  obtain ⟨cur', hc'⟩ := own_type h.top e
  rw [hc] at hc'; simp at hc'

theorem ON.cells (h : ON w base O k S L vO vT) : w.cell? ⟨O, 0, none⟩ = some vO ∧ w.cell? ⟨O, 1, none⟩ = some .nilIface ∧ w.cell? ⟨O, 2, none⟩ = some (.int .i64 0) ∧ w.cell? ⟨O, 3, none⟩ = some vT ∧ w.cell? ⟨O, 4, none⟩ = some .nilIface := by
  have := h.blk
  refine ⟨?_, ?_, ?_, ?_, ?_⟩ <;> simp [World.cell?, this]
theorem ON.free (h : ON w base O k S L vO vT) (i : Nat) : w.frozen? ⟨O, i, none⟩ = false := by simp [World.frozen?, h.blk]

theorem ON.of_blocks (h : ON w base O k S L vO vT) (hk : ∀ g, g ∈ foot O vO vT → w'.heap[g]? = w.heap[g]?) : ON w' base O k S L vO vT :=
  ⟨(hk O (by simp [foot])).trans h.blk, own_blk h.own (fun g hg => hk g (by simp [foot, hg])), own_blk h.top (fun g hg => hk g (by simp [foot, hg])), h.hb⟩
theorem ON.lt (h : ON w base O k S L vO vT) : ∀ g ∈ foot O vO vT, g < w.heap.size ∧ base ≤ g := by
  intro g hg
  simp only [foot, List.mem_cons, List.mem_append, mem_own] at hg
  rcases hg with rfl | hg | hg
  · exact ⟨h.ltO, h.hb⟩
  · exact ⟨(h.own.lt g hg).2, (h.own.lt g hg).1⟩
  · exact ⟨(h.top.lt g hg).2, (h.top.lt g hg).1⟩
theorem ON.below (h : ON w base O k S L vO vT) (hb : Below w.heap.size w w') : ON w' base O k S L vO vT := h.of_blocks (fun g hg => hb.block g (h.lt g hg).1)
theorem ON.keeps {X : List Nat} (h : ON w base O k S L vO vT) (hk : Keeps X w w') (hX : ∀ g ∈ foot O vO vT, g ∉ X) : ON w' base O k S L vO vT := h.of_blocks (fun g hg => hk.block g (h.lt g hg).1 (hX g hg))
theorem ON.drew (h : ON w base O k S L vO vT) : ON w.drew base O k S L vO vT := ⟨h.blk, h.own, h.top, h.hb⟩
theorem ON.drewN (h : ON w base O k S L vO vT) (m : Nat) : ON (w.drewN m) base O k S L vO vT := ⟨h.blk, h.own, h.top, h.hb⟩
end

/-- (*SpillStack).Size. -/
theorem size_any (O : Nat) (a : Option Addr) (t c : Nat) (w : World) (ht : t ≤ 4194304) (h2 : w.cell? ⟨O, 2, none⟩ = some (.int .i64 0)) (h3 : w.cell? ⟨O, 3, none⟩ = some (.slice a t c)) :
    Calls Tryf.prog 21 #[.pointer (some ⟨O, 1, none⟩)] w fun e w' => e = .returned (.int .i64 t) ∧ ∃ m, w' = w.drewN m := by
  go_enter Tryf.func21, Tryf.ntmps21
  go_wp2
  go_quiet (fail)
  go_wp2
  go_ret
  exact ⟨by simp, _, rfl⟩

/-- (*SpillStack).Buffer. -/
theorem buffer_any (O : Nat) (v : Value) (w : World) (h3 : w.cell? ⟨O, 3, none⟩ = some v) :
    Calls Tryf.prog 25 #[.pointer (some ⟨O, 1, none⟩)] w fun e w' => e = .returned v ∧ w = w' := by
  go_enter Tryf.func25, Tryf.ntmps25
  go_wp2
  go_ret
  exact ⟨rfl, rfl⟩

/-- (*SpillStack).Commit, with no spill and no error. -/
theorem commit_any (O : Nat) (a : Option Addr) (t c : Nat) (old : Value) (w : World) (h1 : w.cell? ⟨O, 1, none⟩ = some .nilIface) (h3 : w.cell? ⟨O, 3, none⟩ = some old) (h4 : w.cell? ⟨O, 4, none⟩ = some .nilIface) (hf : w.frozen? ⟨O, 3, none⟩ = false) :
    Calls Tryf.prog 23 #[.pointer (some ⟨O, 1, none⟩), .slice a t c] w fun e w' => e = .returned .nilIface ∧ w' = w.setCell ⟨O, 3, none⟩ (.slice a t c) := by
  go_enter Tryf.func23, Tryf.ntmps23
  go_wp2
  go_ret
  exact ⟨rfl, rfl⟩
end Go.Proofs.Qxb6608526aFmt
