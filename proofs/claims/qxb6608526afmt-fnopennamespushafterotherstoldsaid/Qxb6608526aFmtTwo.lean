import Derived.Test.Qxb6608526aFmtKeep
namespace Go.Proofs.Qxb6608526aFmt
open Go.ChangeShapes Go.WideShapes Go.ChangeAt Go.RowKit
set_option linter.unusedVariables false

/-- The names from c on. -/
def sh (c : Nat) (F : Nat → ByteArray) : Nat → ByteArray := fun j => F (c + j)

theorem sp_add (S L : Nat → ByteArray) (c : Nat) : ∀ j, sp S L (c + j) = sp S L c + sp (sh c S) (sh c L) j
  | 0 => rfl
  | j + 1 => by
    have h1 : sp S L (c + (j + 1)) = sp S L (c + j) + if 64 < wl (S (c + j)) (L (c + j)) then wl (S (c + j)) (L (c + j)) else 0 := rfl
    have h2 : sp (sh c S) (sh c L) (j + 1) = sp (sh c S) (sh c L) j + if 64 < wl (S (c + j)) (L (c + j)) then wl (S (c + j)) (L (c + j)) else 0 := rfl
    rw [h1, h2, sp_add S L c j, Nat.add_assoc]
theorem tb_add (S L : Nat → ByteArray) (c : Nat) : ∀ j, tb S L (c + j) = tb S L c ++ tb (sh c S) (sh c L) j
  | 0 => (List.append_nil _).symm
  | j + 1 => by
    have h1 : tb S L (c + (j + 1)) = tb S L (c + j) ++ if 64 < wl (S (c + j)) (L (c + j)) then wby (S (c + j)) (L (c + j)) else [] := rfl
    have h2 : tb (sh c S) (sh c L) (j + 1) = tb (sh c S) (sh c L) j ++ if 64 < wl (S (c + j)) (L (c + j)) then wby (S (c + j)) (L (c + j)) else [] := rfl
    rw [h1, h2, tb_add S L c j, List.append_assoc]
theorem tb_rest (S L : Nat → ByteArray) {c n : Nat} (h : c ≤ n) (i : Nat) : (tb S L n).getD (sp S L c + i) 0 = (tb (sh c S) (sh c L) (n - c)).getD i 0 := by
  have e := tb_add S L c (n - c)
  rw [show c + (n - c) = n from by omega] at e
  rw [e, List.getD_eq_getElem?_getD, List.getElem?_append_right (by rw [tb_length]; omega), tb_length, show sp S L c + i - sp S L c = i from by omega, List.getD_eq_getElem?_getD]
theorem sp_rest (S L : Nat → ByteArray) {c n : Nat} (h : c ≤ n) : sp S L n = sp S L c + sp (sh c S) (sh c L) (n - c) := by
  have e := sp_add S L c (n - c)
  rw [show c + (n - c) = n from by omega] at e
  exact e

/-- Two openNames beside each other, none of their blocks shared; w: the world at the start. -/
def Two (w wx : World) (base O1 O2 k1 k2 : Nat) (F1 F2 G1 G2 : Nat → ByteArray) : Prop :=
  ∃ vO1 vT1 vO2 vT2, ON wx base O1 k1 F1 F2 vO1 vT1 ∧ ON wx base O2 k2 G1 G2 vO2 vT2 ∧ (∀ g ∈ foot O1 vO1 vT1, g ∉ foot O2 vO2 vT2) ∧ Below base w wx

section
variable {w wx wy : World} {base O1 O2 k1 k2 : Nat} {F1 F2 G1 G2 : Nat → ByteArray}
theorem Two.bel (T : Two w wx base O1 O2 k1 k2 F1 F2 G1 G2) : Below base w wx := by
  obtain ⟨_, _, _, _, _, _, _, h⟩ := T; exact h
theorem Two.below (T : Two w wx base O1 O2 k1 k2 F1 F2 G1 G2) (h : Below wx.heap.size wx wy) : Two w wy base O1 O2 k1 k2 F1 F2 G1 G2 := by
  obtain ⟨a, b, c, d, h1, h2, h3, h4⟩ := T
  exact ⟨a, b, c, d, h1.below h, h2.below h, h3, h4.trans (h.mono (by have := h1.ltO; have := h1.hb; omega))⟩
theorem Two.drewN (T : Two w wx base O1 O2 k1 k2 F1 F2 G1 G2) (m : Nat) : Two w (wx.drewN m) base O1 O2 k1 k2 F1 F2 G1 G2 := T.below (below_drewN (Below.refl _ _) _)
theorem Two.drew (T : Two w wx base O1 O2 k1 k2 F1 F2 G1 G2) : Two w wx.drew base O1 O2 k1 k2 F1 F2 G1 G2 := T.below (Below.refl _ _).drew

theorem push_a (T : Two w wx base O1 O2 k1 k2 F1 F2 G1 G2) (hk : k1 ≤ 1048576) (hs : (F1 k1).size ≤ 1048576) (hl : (F2 k1).size ≤ 1048576) (hsp : sp F1 F2 k1 ≤ 1048576) :
    Calls Tryf.prog 9 #[.pointer (some ⟨O1, 0, none⟩), .string (F1 k1), .string (F2 k1)] wx fun e w' => e = .returned .nilIface ∧ Two w w' base O1 O2 (k1 + 1) k2 F1 F2 G1 G2 := by
  obtain ⟨a, b, c, d, h1, h2, h3, h4⟩ := T
  refine (push base O1 k1 F1 F2 a b wx hk hs hl hsp h1).mono ?_
  rintro e w' ⟨rfl, a', b', D⟩
  refine ⟨rfl, a', b', c, d, D.on, h2.keeps D.keep (fun g hg hh => h3 g hh hg), fun g hg hh => ?_, h4.trans (D.below h1)⟩
  rcases D.fp g hg with q | q
  · exact h3 g q hh
  · have := (h2.lt g hh).1; omega
theorem push_b (T : Two w wx base O1 O2 k1 k2 F1 F2 G1 G2) (hk : k2 ≤ 1048576) (hs : (G1 k2).size ≤ 1048576) (hl : (G2 k2).size ≤ 1048576) (hsp : sp G1 G2 k2 ≤ 1048576) :
    Calls Tryf.prog 9 #[.pointer (some ⟨O2, 0, none⟩), .string (G1 k2), .string (G2 k2)] wx fun e w' => e = .returned .nilIface ∧ Two w w' base O1 O2 k1 (k2 + 1) F1 F2 G1 G2 := by
  obtain ⟨a, b, c, d, h1, h2, h3, h4⟩ := T
  refine (push base O2 k2 G1 G2 c d wx hk hs hl hsp h2).mono ?_
  rintro e w' ⟨rfl, c', d', D⟩
  refine ⟨rfl, a, b, c', d', h1.keeps D.keep (fun g hg hh => h3 g hg hh), D.on, fun g hg hh => ?_, h4.trans (D.below h2)⟩
  rcases D.fp g hh with q | q
  · exact h3 g hg q
  · have := (h1.lt g hg).1; omega
/-- The same, said by the place among all the names. -/
theorem push_part {c k : Nat} (T : Two w wx base O1 O2 k1 (k - c) F1 F2 (sh c F1) (sh c F2)) (hc : c ≤ k) (hk : k ≤ 1048576) (hs : (F1 k).size ≤ 1048576) (hl : (F2 k).size ≤ 1048576) (hsp : sp F1 F2 k ≤ 1048576) :
    Calls Tryf.prog 9 #[.pointer (some ⟨O2, 0, none⟩), .string (F1 k), .string (F2 k)] wx fun e w' => e = .returned .nilIface ∧ Two w w' base O1 O2 k1 (k + 1 - c) F1 F2 (sh c F1) (sh c F2) := by
  have e1 : c + (k - c) = k := by omega
  have es : sh c F1 (k - c) = F1 k := by unfold sh; rw [e1]
  have el : sh c F2 (k - c) = F2 k := by unfold sh; rw [e1]
  have hr := sp_rest F1 F2 hc
  have := push_b T (by omega) (by rw [es]; exact hs) (by rw [el]; exact hl) (by omega)
  rw [es, el, show k - c + 1 = k + 1 - c from by omega] at this
  exact this

theorem size_a (T : Two w wx base O1 O2 k1 k2 F1 F2 G1 G2) (hsp : sp F1 F2 k1 ≤ 4194304) : Calls Tryf.prog 15 #[.pointer (some ⟨O1, 0, none⟩)] wx fun e w' => e = .returned (.int .i64 (sp F1 F2 k1 : Nat)) ∧ ∃ m, w' = wx.drewN m := by
  obtain ⟨a, b, c, d, h1, h2, h3, h4⟩ := T
  exact longSize base O1 k1 F1 F2 a b wx hsp h1
theorem size_b (T : Two w wx base O1 O2 k1 k2 F1 F2 G1 G2) (hsp : sp G1 G2 k2 ≤ 4194304) : Calls Tryf.prog 15 #[.pointer (some ⟨O2, 0, none⟩)] wx fun e w' => e = .returned (.int .i64 (sp G1 G2 k2 : Nat)) ∧ ∃ m, w' = wx.drewN m := by
  obtain ⟨a, b, c, d, h1, h2, h3, h4⟩ := T
  exact longSize base O2 k2 G1 G2 c d wx hsp h2
theorem count_a (T : Two w wx base O1 O2 k1 k2 F1 F2 G1 G2) : Calls Tryf.prog 10 #[.pointer (some ⟨O1, 0, none⟩)] wx fun e w' => e = .returned (.int .i64 k1) ∧ wx = w' := by
  obtain ⟨a, b, c, d, h1, h2, h3, h4⟩ := T
  exact openCount base O1 k1 F1 F2 a b wx h1
theorem count_b {c k : Nat} (T : Two w wx base O1 O2 k1 (k - c) F1 F2 G1 G2) (hc : c ≤ k) : Calls Tryf.prog 10 #[.pointer (some ⟨O2, 0, none⟩)] wx fun e w' => e = .returned (.int .i64 ((k : Int) - (c : Int))) ∧ wx = w' := by
  obtain ⟨a, b, c', d, h1, h2, h3, h4⟩ := T
  have := openCount base O2 (k - c) G1 G2 c' d wx h2
  rw [Int.ofNat_sub hc] at this
  exact this
theorem entry_a (T : Two w wx base O1 O2 k1 k2 F1 F2 G1 G2) {i : Nat} (hk : k1 ≤ 1048576) (hi : i < k1) :
    Calls Tryf.prog 11 #[.pointer (some ⟨O1, 0, none⟩), .int .i64 i] wx fun e w' => e = .returned (.tuple #[.string (eSpace F1 F2 i), .string (eLocal F1 F2 i), .bool (eLong F1 F2 i), .int .i64 (eAt F1 F2 i)]) ∧ Two w w' base O1 O2 k1 k2 F1 F2 G1 G2 := by
  have T' := T
  obtain ⟨a, b, c, d, h1, h2, h3, h4⟩ := T
  refine (openEntry base O1 k1 i F1 F2 a b wx hk hi h1).mono ?_
  rintro e w' ⟨rfl, hb⟩
  exact ⟨rfl, T'.below hb⟩
/-- Where the entry of name i lies in the part. -/
def pAt (F1 F2 : Nat → ByteArray) (c i : Nat) : Int := if 64 < wl (F1 i) (F2 i) then (sp (sh c F1) (sh c F2) (i - c) : Nat) else 0
theorem entry_b {c k i : Nat} (T : Two w wx base O1 O2 k1 (k - c) F1 F2 (sh c F1) (sh c F2)) (hk : k ≤ 1048576) (hc : c ≤ i) (hi : i < k) :
    Calls Tryf.prog 11 #[.pointer (some ⟨O2, 0, none⟩), .int .i64 ((i : Int) - (c : Int))] wx fun e w' => e = .returned (.tuple #[.string (eSpace F1 F2 i), .string (eLocal F1 F2 i), .bool (eLong F1 F2 i), .int .i64 (pAt F1 F2 c i)]) ∧ Two w w' base O1 O2 k1 (k - c) F1 F2 (sh c F1) (sh c F2) := by
  have T' := T
  obtain ⟨a, b, c', d, h1, h2, h3, h4⟩ := T
  have q := openEntry base O2 (k - c) (i - c) (sh c F1) (sh c F2) c' d wx (by omega) (by omega) h2
  have e1 : c + (i - c) = i := by omega
  have es : sh c F1 (i - c) = F1 i := by unfold sh; rw [e1]
  have el : sh c F2 (i - c) = F2 i := by unfold sh; rw [e1]
  rw [Int.ofNat_sub hc, show eSpace (sh c F1) (sh c F2) (i - c) = eSpace F1 F2 i from by unfold eSpace; rw [es, el], show eLocal (sh c F1) (sh c F2) (i - c) = eLocal F1 F2 i from by unfold eLocal; rw [es, el],
    show eLong (sh c F1) (sh c F2) (i - c) = eLong F1 F2 i from by unfold eLong; rw [es, el], show eAt (sh c F1) (sh c F2) (i - c) = pAt F1 F2 c i from by unfold eAt pAt; rw [es, el]] at q
  refine q.mono ?_
  rintro e w' ⟨rfl, hb⟩
  exact ⟨rfl, T'.below hb⟩
theorem long_a (T : Two w wx base O1 O2 k1 k2 F1 F2 G1 G2) {f m : Nat} (hsp : sp F1 F2 k1 ≤ 4194304) (h2 : f + m ≤ sp F1 F2 k1) :
    Calls Tryf.prog 13 #[.pointer (some ⟨O1, 0, none⟩), .int .i64 (f : Int), .int .i64 ((f : Int) + (m : Int))] wx fun e w' => Got wx m (fun j => (tb F1 F2 k1).getD (f + j) 0) e ∧ ∃ m, w' = wx.drewN m := by
  obtain ⟨a, b, c, d, h1, _, h3, h4⟩ := T
  exact longBytes_len base O1 k1 f m F1 F2 a b wx hsp h2 h1
theorem long_b (T : Two w wx base O1 O2 k1 k2 F1 F2 G1 G2) {m : Nat} (hsp : sp G1 G2 k2 ≤ 4194304) (hm : m ≤ sp G1 G2 k2) :
    Calls Tryf.prog 13 #[.pointer (some ⟨O2, 0, none⟩), .int .i64 0, .int .i64 m] wx fun e w' => Got wx m (fun j => (tb G1 G2 k2).getD j 0) e ∧ ∃ m, w' = wx.drewN m := by
  obtain ⟨a, b, c, d, h1, h2, h3, h4⟩ := T
  have q := longBytes base O2 k2 0 m G1 G2 c d wx hsp (Nat.zero_le _) hm h2
  simp only [Nat.sub_zero, Nat.zero_add] at q
  exact q
end
end Go.Proofs.Qxb6608526aFmt
