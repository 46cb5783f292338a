import Derived.Test.Qxb6608526aFmtRead
namespace Go.Proofs.Qxb6608526aFmt
open Go.ChangeShapes Go.WideShapes Go.ChangeAt Go.RowKit
set_option linter.unusedVariables false

/-- The bytes asked for came back, and 'true'. -/
def Got (w : World) (n : Nat) (f : Nat → Int) (e : Ending) : Prop := ∃ a c, e = .returned (.tuple #[.slice a n c, .bool true]) ∧ Reads w a n f

/-- (*SpillStack).InMemory, nothing spilled, the top a row. -/
theorem inMem_some (O g t c f to : Nat) (b : Nat → Int) (w : World) (ht : t ≤ 4194304) (htc : t ≤ c) (hc : c ≤ maxLen) (h1 : f ≤ to) (h2 : to ≤ t) (c2 : w.cell? ⟨O, 2, none⟩ = some (.int .i64 0)) (c3 : w.cell? ⟨O, 3, none⟩ = some (.slice (some ⟨g, 0, none⟩) t c))
    (hb : ∀ j, j < t → w.cell? ⟨g, j, none⟩ = some (.int .u8 (b j))) :
    Calls Tryf.prog 20 #[.pointer (some ⟨O, 1, none⟩), .int .i64 f, .int .i64 to] w fun e w' => Got w (to - f) (fun j => b (f + j)) e ∧ ∃ m, w' = w.drewN m := by
  unfold maxLen at hc
  have HB : Hid (∀ j, j < t → w.cell? ⟨g, j, none⟩ = some (.int .u8 (b j))) := hb
  clear hb
  have i1 : (0 : Int) ≤ (f : Int) := by omega
  have i2 : (f : Int) ≤ (to : Int) := by omega
  have i3 : (to : Int) ≤ (c : Int) := by omega
  have e1 : IntKind.i64.wrap (f : Int) = (f : Int) := IntWalk.i64_in _ ⟨by omega, by omega⟩
  have e2 : IntKind.i64.wrap (to : Int) = (to : Int) := IntWalk.i64_in _ ⟨by omega, by omega⟩
  go_enter Tryf.func20, Tryf.ntmps20
  go_wp2
  go_quiet (fail)
  go_wp2
  all_goals go_ret2
  · refine ⟨⟨_, _, rfl, Or.inl (by omega)⟩, _, rfl⟩
  · refine ⟨⟨_, _, rfl, Or.inr ⟨_, _, rfl, fun j hj => HB.out _ (by omega)⟩⟩, _, rfl⟩

/-- .. the top nil. -/
theorem inMem_nil (O : Nat) (b : Nat → Int) (w : World) (c2 : w.cell? ⟨O, 2, none⟩ = some (.int .i64 0)) (c3 : w.cell? ⟨O, 3, none⟩ = some (.slice none 0 0)) :
    Calls Tryf.prog 20 #[.pointer (some ⟨O, 1, none⟩), .int .i64 0, .int .i64 0] w fun e w' => Got w 0 b e ∧ ∃ m, w' = w.drewN m := by
  go_enter Tryf.func20, Tryf.ntmps20
  go_wp2
  go_quiet (fail)
  go_wp2
  go_ret2
  exact ⟨⟨_, _, rfl, Or.inl rfl⟩, _, rfl⟩

/-- ZZlongBytes. -/
theorem longBytes (base O k f to : Nat) (S L : Nat → ByteArray) (vO vT : Value) (w : World) (hsp : sp S L k ≤ 4194304) (h1 : f ≤ to) (h2 : to ≤ sp S L k) (h : ON w base O k S L vO vT) :
    Calls Tryf.prog 13 #[.pointer (some ⟨O, 0, none⟩), .int .i64 f, .int .i64 to] w fun e w' => Got w (to - f) (fun j => (tb S L k).getD (f + j) 0) e ∧ ∃ m, w' = w.drewN m := by
  have HC : Hid (Calls Tryf.prog 20 #[.pointer (some ⟨O, 1, none⟩), .int .i64 f, .int .i64 to] w fun e w' => Got w (to - f) (fun j => (tb S L k).getD (f + j) 0) e ∧ ∃ m, w' = w.drewN m) := by
    have c2 := h.cells.2.2.1
    have c3 := h.cells.2.2.2.1
    have htop := h.top
    rcases h.top.2 with ⟨hv, hz⟩ | ⟨g, cap, cur, hv, hbg, hg, hnc, hcm, _⟩
    · rw [hv] at c3
      obtain rfl : f = 0 := by omega
      obtain rfl : to = 0 := by omega
      exact inMem_nil O _ w c2 c3
    · rw [hv] at c3 htop
      refine inMem_some O g (sp S L k) cap f to (fun j => (tb S L k).getD j 0) w hsp hnc hcm h1 h2 c2 c3 (fun j hj => ?_)
      rw [htop.cellAt j (by omega)]
      exact cells_at (by rw [tb_length]; exact hj)
  clear h
  go_enter Tryf.func13, Tryf.ntmps13
  go_wp2_with (go_at_call 20; refine HC.out.mono ?_; rintro e w1 ⟨⟨a, c, rfl, hr⟩, m, rfl⟩)
  go_ret2
  exact ⟨⟨_, _, rfl, hr⟩, _, rfl⟩

theorem Reads.congr {w : World} {a : Option Addr} {n : Nat} {f g : Nat → Int} (h : Reads w a n f) (e : ∀ j, j < n → f j = g j) : Reads w a n g := by
  rcases h with h | ⟨b, o, ha, hc⟩
  · exact Or.inl h
  · exact Or.inr ⟨b, o, ha, fun j hj => by rw [← e j hj]; exact hc j hj⟩

/-- ZZlongBytes, by an offset and a length. -/
theorem longBytes_len (base O k f m : Nat) (S L : Nat → ByteArray) (vO vT : Value) (w : World) (hsp : sp S L k ≤ 4194304) (h2 : f + m ≤ sp S L k) (h : ON w base O k S L vO vT) :
    Calls Tryf.prog 13 #[.pointer (some ⟨O, 0, none⟩), .int .i64 (f : Int), .int .i64 ((f : Int) + (m : Int))] w fun e w' => Got w m (fun j => (tb S L k).getD (f + j) 0) e ∧ ∃ m, w' = w.drewN m := by
  have := longBytes base O k f (f + m) S L vO vT w hsp (by omega) h2 h
  rw [Nat.add_sub_cancel_left, Int.natCast_add] at this
  exact this
end Go.Proofs.Qxb6608526aFmt
