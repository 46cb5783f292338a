import Derived.Test.Qxb6608527aPend
namespace Go.Proofs.Qxb6608527a
open Go.ChangeShapes Go.WideShapes Go.ChangeAt Go.RowKit
set_option linter.unusedVariables false

/-- A slice of m pointers to recipients of block g, the k-th to the recipient at place f k; its own block is not below lo. -/
def Ptrs (w : World) (a : Option Addr) (m : Nat) (f : Nat → Nat) (g lo : Nat) : Prop :=
  m = 0 ∨ ∃ gp, a = some ⟨gp, 0, none⟩ ∧ lo ≤ gp ∧ ∀ k, k < m → w.cell? ⟨gp, k, none⟩ = some (.pointer (some ⟨g, f k * 8, none⟩))
theorem Ptrs.below {w w' : World} {a : Option Addr} {m : Nat} {f : Nat → Nat} {g lo : Nat} (h : Ptrs w a m f g lo) (hb : Below w.heap.size w w') : Ptrs w' a m f g lo := by
  rcases h with h | ⟨gp, ha, hl, hc⟩
  · exact Or.inl h
  · exact Or.inr ⟨gp, ha, hl, fun k hk => cell_later hb (hc k hk)⟩
theorem Ptrs.at {w : World} {a : Option Addr} {m : Nat} {f : Nat → Nat} {g lo : Nat} (h : Ptrs w a m f g lo) (hm : 0 < m) : ∃ gp, a = some ⟨gp, 0, none⟩ ∧ lo ≤ gp ∧ ∀ k, k < m → w.cell? ⟨gp, k, none⟩ = some (.pointer (some ⟨g, f k * 8, none⟩)) := by
  rcases h with h | h
  · omega
  · exact h
theorem Ptrs.congr {w : World} {a : Option Addr} {m : Nat} {f f' : Nat → Nat} {g lo : Nat} (h : Ptrs w a m f g lo) (e : ∀ k, k < m → f k = f' k) : Ptrs w a m f' g lo := by
  rcases h with h | ⟨gp, ha, hl, hc⟩
  · exact Or.inl h
  · exact Or.inr ⟨gp, ha, hl, fun k hk => by rw [← e k hk]; exact hc k hk⟩

def PtrRes (w w' : World) (g : Nat) (l : List Nat) (e : Ending) : Prop := ∃ a c, e = .returned (.slice a l.length c) ∧ Ptrs w' a l.length (fun k => l.getD k 0) g w.heap.size
theorem PtrOut.res {w w' : World} {g : Nat} {l : List Nat} {e : Ending} (h : PtrOut w w' g l e) : PtrRes w w' g l e := by
  obtain ⟨v, rfl, ho⟩ := h
  rcases Nat.eq_zero_or_pos l.length with h0 | hp
  · rcases ho.2 with ⟨rfl, _⟩ | ⟨q, cap, cur, rfl, _⟩
    · exact ⟨none, 0, by rw [h0], Or.inl h0⟩
    · exact ⟨_, cap, rfl, Or.inl h0⟩
  · obtain ⟨q, c, rfl, _, _⟩ := ho.form (by omega)
    refine ⟨_, c, rfl, Or.inr ⟨q, rfl, (ho.lt q rfl).1, fun k hk => ?_⟩⟩
    rw [ho.cellAt k (by omega)]
    simp [ptrs, hk]
/-- ZZpendingOf, as the main walk wants it. -/
theorem pend12 (E g n : Nat) (A S : Nat → ByteArray) (w : World) (hn : n ≤ 65536) (h : Ent w E g n A S) :
    Calls Try.prog 12 #[.pointer (some ⟨E, 0, none⟩)] w fun e w' => PtrRes w w' g (pl S n) e ∧ Below w.heap.size w w' :=
  (pendingOf' E g n A S w hn h).mono fun e w' q => ⟨q.1.res, q.2⟩

/-- The states behind j marks. -/
def mkd (F : Nat → ByteArray) (j i : Nat) : ByteArray := if F i = pend ∧ (pl F i).length < j then dlv else F i
theorem mkd_zero (F : Nat → ByteArray) : mkd F 0 = F := by funext i; simp [mkd]
theorem mkd_succ (F : Nat → ByteArray) {n j : Nat} (hj : j < (pl F n).length) (i : Nat) (hi : i < n) : mkd F (j + 1) i = if i = (pl F n).getD j 0 then dlv else mkd F j i := by
  obtain ⟨h1, h2, h3⟩ := pl_idx F hj
  by_cases e : i = (pl F n).getD j 0
  · rw [if_pos e, e]
    unfold mkd
    rw [if_pos ⟨h2, by omega⟩]
  · rw [if_neg e]
    unfold mkd
    by_cases hp : F i = pend
    · have hne : (pl F i).length ≠ j := fun e' => e (by have := (pl_at F hi hp).2; rw [e'] at this; exact this.symm)
      by_cases hl : (pl F i).length < j
      · rw [if_pos ⟨hp, by omega⟩, if_pos ⟨hp, hl⟩]
      · rw [if_neg (fun q => by omega), if_neg (fun q => hl q.2)]
    · rw [if_neg (fun q => hp q.1), if_neg (fun q => hp q.1)]
theorem mkd_end (F : Nat → ByteArray) {n i : Nat} (hi : i < n) : mkd F (pl F n).length i = if F i = pend then dlv else F i := by
  unfold mkd
  by_cases hp : F i = pend
  · rw [if_pos ⟨hp, (pl_at F hi hp).1⟩, if_pos hp]
  · rw [if_neg (fun q => hp q.1), if_neg hp]
theorem mkd_none (F : Nat → ByteArray) (n : Nat) : pl (mkd F (pl F n).length) n = [] :=
  pl_none _ fun i hi => by
    rw [mkd_end F hi]
    split
    · exact dlv_ne
    · assumption

theorem rangeAt_set {w : World} {g o j : Nat} {cs : List Value} {v u : Value} (h : w.rangeAt g o cs) (hj : cs[j]? = some u) : (w.setCell ⟨g, o + j, none⟩ v).rangeAt g o (cs.set j v) := fun i x hx => by
  by_cases e : i = j
  · subst e
    rw [World.cell?_setCell_same _ _ _ (h i u hj)]
    rw [List.getElem?_set_self (List.getElem?_eq_some_iff.1 hj).1] at hx
    exact hx
  · rw [World.cell?_setCell_other _ _ _ _ (fun q => e (by injection q with _ q2 _; omega))]
    rw [List.getElem?_set_ne (Ne.symm e)] at hx
    exact h i x hx
theorem rangeAt_far {w : World} {g o : Nat} {cs : List Value} {p : Addr} {v : Value} (h : w.rangeAt g o cs) (hp : ∀ j, j < cs.length → p ≠ ⟨g, o + j, none⟩) : (w.setCell p v).rangeAt g o cs := fun i x hx => by
  rw [World.cell?_setCell_other _ _ _ _ (hp i (List.getElem?_eq_some_iff.1 hx).1)]
  exact h i x hx
theorem there_set {w : World} {g o n : Nat} {p : Addr} {v : Value} (h : w.there g o n) : (w.setCell p v).there g o n := fun j hj => by
  obtain ⟨h1, h2⟩ := h j hj
  obtain ⟨u, hu⟩ := Option.isSome_iff_exists.1 h1
  refine ⟨?_, by rw [World.frozen?_setCell]; exact h2⟩
  by_cases e : p = ⟨g, o + j, none⟩
  · subst e; rw [World.cell?_setCell_same _ _ _ hu]; rfl
  · rw [World.cell?_setCell_other _ _ _ _ e, hu]; rfl

/-- One mark through a pointer. -/
theorem Ent.mark {w : World} {E g n j : Nat} {A F : Nat → ByteArray} (h : Ent w E g n A (mkd F j)) (hE : E ≠ g) (hj : j < (pl F n).length) : Ent (w.setCell ⟨g, (pl F n).getD j 0 * 8 + 1, none⟩ (.string dlv)) E g n A (mkd F (j + 1)) := by
  refine ⟨by rw [World.cell?_setCell_other _ _ _ _ (fun q => hE (by injection q with q1 _ _; exact q1.symm))]; exact h.ent, fun i hi => ?_, there_set h.row.thr⟩
  rw [mkd_succ F hj i hi]
  by_cases e : i = (pl F n).getD j 0
  · rw [if_pos e, ← e]
    exact rangeAt_set (j := 1) (u := .string (mkd F j i)) (h.row.rng i hi) rfl
  · rw [if_neg e]
    refine rangeAt_far (h.row.rng i hi) (fun q hq hh => ?_)
    have hq' : q < 8 := hq
    injection hh with _ h2 _
    omega
theorem Ptrs.far {w : World} {a : Option Addr} {m : Nat} {f : Nat → Nat} {g lo : Nat} (h : Ptrs w a m f g lo) {p : Addr} (hp : p.block < lo) (v : Value) : Ptrs (w.setCell p v) a m f g lo := by
  rcases h with h | ⟨gp, ha, hl, hc⟩
  · exact Or.inl h
  · exact Or.inr ⟨gp, ha, hl, fun k hk => by rw [World.cell?_setCell_other _ _ _ _ (fun q => by subst q; simp at hp; omega)]; exact hc k hk⟩

/-- All that the walk holds in memory behind j marks; w: the world at the start. -/
structure Mem (w wx : World) (E g n j m lo : Nat) (a : Option Addr) (A F : Nat → ByteArray) (f : Nat → Nat) : Prop where
  ent : Ent wx E g n A (mkd F j)
  ptr : Ptrs wx a m f g lo
  bel : Below w.heap.size w wx
theorem Mem.below {w wx wy : World} {E g n j m lo : Nat} {a : Option Addr} {A F : Nat → ByteArray} {f : Nat → Nat} (h : Mem w wx E g n j m lo a A F f) (hb : Below wx.heap.size wx wy) : Mem w wy E g n j m lo a A F f :=
  ⟨h.ent.below hb, h.ptr.below hb, h.bel.trans (hb.mono h.bel.size)⟩
theorem Mem.mark {w wx : World} {E g n j m lo : Nat} {a : Option Addr} {A F : Nat → ByteArray} {f : Nat → Nat} (h : Mem w wx E g n j m lo a A F f) (hE : E ≠ g) (hj : j < (pl F n).length) (hf : f j = (pl F n).getD j 0) (hg : w.heap.size ≤ g) (hlo : g < lo) :
    Mem w (wx.setCell ⟨g, f j * 8 + 1, none⟩ (.string dlv)) E g n (j + 1) m lo a A F f := by
  refine ⟨?_, h.ptr.far hlo _, h.bel.setCell hg _⟩
  rw [hf]
  exact h.ent.mark hE hj
end Go.Proofs.Qxb6608527a
