import Derived.Test.Qxb6608527aEnt
import Derived.Deep.AppendLies
namespace Go.Proofs.Qxb6608527a
open Go.ChangeShapes Go.WideShapes Go.ChangeAt Go.RowKit
set_option linter.unusedVariables false

/-- Pointers to the recipients of the places listed, as cells. -/
def ptrs (g : Nat) (l : List Nat) : List Value := l.map fun i => .pointer (some ⟨g, i * 8, none⟩)
def PtrOut (w w' : World) (g : Nat) (l : List Nat) (e : Ending) : Prop := ∃ v, e = .returned v ∧ w'.ownsRow w.heap.size 41 1 v l.length (ptrs g l)

theorem news_one (W : World) (v : Value) (t : TypeId) : ∀ j u, [v][j]? = some u → (W.alloc (.cells #[v] t)).cell? ((⟨W.heap.size, 0, none⟩ : Addr).add j) = some u :=
  World.news_of_block (heap_alloc_new W _)

set_option maxHeartbeats 1000000 in
/-- pendingOf. -/
theorem pendingOf (E g n : Nat) (A S : Nat → ByteArray) (w : World) (hn : n ≤ 65536) (h : Ent w E g n A S) :
    Calls Try.prog 18 #[.pointer (some ⟨E, 0, none⟩)] w fun e w' => PtrOut w w' g (pl S n) e ∧ Below w.heap.size w w' := by
  obtain ⟨i0, hi, hz0, hz1, hz2⟩ := info_parts Try.info41
  have HE : Hid (Ent w E g n A S) := h
  have ce := h.ent
  clear h
  go_enter Try.func18, Try.ntmps18
  go_wp2
  go_loopw [3, 12] (fun p i wx => ∃ (k : Nat) (v : Value), v = p ∧ k ≤ n ∧ i = .int .i64 k ∧ wx.ownsRow w.heap.size 41 1 v (pl S k).length (ptrs g (pl S k)) ∧ Below w.heap.size w wx) (fun _ i _ => n - (intOf i).toNat)
  case atStart => exact ⟨0, _, rfl, Nat.zero_le _, rfl, World.ownsRow_nil _ _ _ _, Below.refl _ _⟩
  case round =>
    clear ce
    obtain ⟨k, p, rfl, hk, rfl, hown, hbel⟩ := hrel
    have HO : Hid (wr.ownsRow w.heap.size 41 1 p (pl S k).length (ptrs g (pl S k)) ∧ Below w.heap.size w wr) := ⟨hown, hbel⟩
    have hle := pl_length_le S k
    have hsz := hbel.size
    clear hown hbel
    by_cases hlt : k < n
    · have ce : wr.cell? ⟨E, 2, none⟩ = some (.slice (some ⟨g, 0, none⟩) n n) := (HE.out.below HO.out.2).ent
      have cs := ((HE.out.below HO.out.2).row.cells hlt).2
      have i1 : (0 : Int) ≤ (k : Int) := by omega
      have i2 : (k : Int) < (n : Int) := by omega
      by_cases hp : S k = pend
      · have hd : ((S k).toList == [112, 101, 110, 100, 105, 110, 103]) = true := by rw [pend_beq]; simp [hp]
        have HL : Hid (pl S (k + 1) = pl S k ++ [k]) := by show _ = _; simp [pl, hp]
        clear hp
        go_wp2_with (at_builtin; refine wpList_append_own _ rfl (.tmp 27) (.tmp 29) 30 rfl w.heap.size 41 i0 (.pointer none) 1 8 Try.underlying30 hi hz0 hz1 hz2 rfl (by decide) p (pl S k).length (ptrs g (pl S k)) rfl (HO.out.1.alloc _) ⟨wr.heap.size, 0, none⟩ 1 1 [.pointer (some ⟨g, k * 8, none⟩)] rfl (by simp) (news_one _ _ _) (by simp [Value.oneCell']) (by unfold maxLen; omega) (by omega) (by simp; omega) ?_; intro v' w' hown' hgrow hnn)
        have R8 : Hid (w'.ownsRow w.heap.size 41 1 v' (pl S (k + 1)).length (ptrs g (pl S (k + 1))) ∧ Below w.heap.size w w') := by
          rw [HL.out]
          refine ⟨by simpa [ptrs] using hown', (HO.out.2.alloc hsz _).grown hgrow (by simp; omega) (fun q hq => ?_)⟩
          exact (HO.out.1.lt q hq).1
        clear hown' hgrow hnn
        go_roundw
        case rel => exact ⟨k + 1, _, rfl, by omega, by go_num, R8.out⟩
        case measure => simp [intOf]; omega
      · have hd : ((S k).toList == [112, 101, 110, 100, 105, 110, 103]) = false := by rw [pend_beq]; simp [hp]
        have HL : Hid (pl S (k + 1) = pl S k) := by show _ = _; simp [pl, hp]
        clear hp
        go_wp2
        go_roundw
        case rel => exact ⟨k + 1, _, rfl, by omega, by go_num, by rw [HL.out]; exact HO.out⟩
        case measure => simp [intOf]; omega
    · obtain rfl : n = k := by omega
      go_wp2
      go_ret
      exact ⟨⟨_, rfl, HO.out.1⟩, HO.out.2⟩

/-- ZZpendingOf. -/
theorem pendingOf' (E g n : Nat) (A S : Nat → ByteArray) (w : World) (hn : n ≤ 65536) (h : Ent w E g n A S) :
    Calls Try.prog 12 #[.pointer (some ⟨E, 0, none⟩)] w fun e w' => PtrOut w w' g (pl S n) e ∧ Below w.heap.size w w' := by
  have HE : Hid (Ent w E g n A S) := h
  clear h
  go_enter Try.func12, Try.ntmps12
  go_wp2_with fail
  refine (pendingOf E g n A S w hn HE.out).mono ?_
  rintro e w' ⟨⟨v, rfl, ho⟩, hb⟩
  go_wp2
  go_ret
  exact ⟨⟨_, rfl, ho⟩, hb⟩
end Go.Proofs.Qxb6608527a
