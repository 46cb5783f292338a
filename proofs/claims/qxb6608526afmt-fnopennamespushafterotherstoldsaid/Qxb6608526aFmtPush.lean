import Derived.Test.Qxb6608526aFmtObj
import Derived.Deep.RegionLaw
namespace Go.Proofs.Qxb6608526aFmt
open Go.ChangeShapes Go.WideShapes Go.ChangeAt Go.RowKit
set_option linter.unusedVariables false
attribute [local go_sem ↓] Go.wp_at_zero Go.wp_at_succ

theorem Tryf.info54 : (Tryf.prog.info? 54).map (fun i => (i.zero, i.size, i.bytes)) = some (some (.agg #[.string ⟨#[]⟩, .string ⟨#[]⟩, .bool false, .int .i64 0]), 4, 48) := by kernel_rfl

/-- An openNames's block. -/
def Blk (w : World) (O : Nat) (vO vT : Value) : Prop := w.heap[O]? = some (.cells #[vO, .nilIface, .int .i64 0, vT, .nilIface, .slice none 0 0] 49 (0, 0))
theorem Blk.cells {w : World} {O : Nat} {vO vT : Value} (h : Blk w O vO vT) : w.cell? ⟨O, 0, none⟩ = some vO ∧ w.cell? ⟨O, 1, none⟩ = some .nilIface ∧ w.cell? ⟨O, 2, none⟩ = some (.int .i64 0) ∧ w.cell? ⟨O, 3, none⟩ = some vT ∧ w.cell? ⟨O, 4, none⟩ = some .nilIface := by
  unfold Blk at h
  refine ⟨?_, ?_, ?_, ?_, ?_⟩ <;> simp [World.cell?, h]
theorem Blk.free {w : World} {O : Nat} {vO vT : Value} (h : Blk w O vO vT) (i : Nat) : w.frozen? ⟨O, i, none⟩ = false := by unfold Blk at h; simp [World.frozen?, h]

/-- Behind the append onto the open entries, the new value not stored yet. -/
structure Pre (w w2 : World) (base O k : Nat) (S L : Nat → ByteArray) (vO vT : Value) (g cap : Nat) (news : List Value) : Prop where
  blk : Blk w2 O vO vT
  own : w2.ownsRow base 54 4 (.slice (some ⟨g, 0, none⟩) (k + 1) cap) (k + 1) (ecells S L k ++ news)
  top : w2.ownsRow base 5 1 vT (sp S L k) (cells (tb S L k))
  keep : Keeps (foot O vO vT) w w2
  gO : g ≠ O
  gT : ¬ vT.ownBlock = some g
  lies : vO.ownBlock = some g ∨ w.heap.size ≤ g
  size : w.heap.size ≤ w2.heap.size
  hb : base ≤ O

/-- .. stored. -/
structure Mid (w w3 : World) (base O k : Nat) (S L : Nat → ByteArray) (vO vT : Value) (g cap : Nat) (news : List Value) : Prop where
  blk : Blk w3 O (.slice (some ⟨g, 0, none⟩) (k + 1) cap) vT
  own : w3.ownsRow base 54 4 (.slice (some ⟨g, 0, none⟩) (k + 1) cap) (k + 1) (ecells S L k ++ news)
  top : w3.ownsRow base 5 1 vT (sp S L k) (cells (tb S L k))
  keep : Keeps (foot O vO vT) w w3
  gT : ¬ vT.ownBlock = some g
  lies : vO.ownBlock = some g ∨ w.heap.size ≤ g
  size : w.heap.size ≤ w3.heap.size
  hb : base ≤ O

section
variable {w W w2 : World} {base O k : Nat} {S L : Nat → ByteArray} {vO vT : Value} {g cap : Nat} {news : List Value}

theorem pre_of (h : ON w base O k S L vO vT) (hW : Below w.heap.size w W) (hown : w2.ownsRow base 54 4 (.slice (some ⟨g, 0, none⟩) (k + 1) cap) (k + 1) (ecells S L k ++ news)) (hg : W.grownBy w2 vO.ownBlock)
    (hat : vO.ownBlock = some g ∨ g = W.heap.size) : Pre w w2 base O k S L vO vT g cap news := by
  have hsz := hW.size
  have hO := h.ltO
  have hl : vO.ownBlock = some g ∨ w.heap.size ≤ g := by
    rcases hat with q | q
    · exact Or.inl q
    · exact Or.inr (by omega)
  refine ⟨?_, hown, ?_, ?_, ?_, ?_, hl, Nat.le_trans hsz hg.size, h.hb⟩
  · exact (hg.block O (by omega) (fun e => h.neO e.symm)).trans ((hW.block O hO).trans h.blk)
  · refine own_blk (own_blk h.top (w' := W) (fun q hq => hW.block q (h.top.lt q hq).2)) (fun q hq => hg.block q (by have := (h.top.lt q hq).2; omega) (fun e => h.neOT q e.symm hq))
  · refine (Keeps.of_below hW).step (Keeps.grown hg) (fun x hx => Or.inl (by simp [foot, mem_own.1 hx]))
  · rcases hl with q | q
    · intro e; subst e; exact h.neO q
    · omega
  · rcases hl with q | q
    · exact h.neOT g q
    · intro e; have := (h.top.lt g e).2; omega

theorem cells_kept {w1 : World} (hW : Below w1.heap.size w1 W) (hg : W.grownBy w2 vO.ownBlock) : ∀ b o x, w1.cell? ⟨b, o, none⟩ = some x → ¬ vO.ownBlock = some b → w2.cell? ⟨b, o, none⟩ = some x :=
  fun b o x hc hne => cell_grown hg (cell_later hW hc) hne

theorem Pre.store (h : Pre w w2 base O k S L vO vT g cap news) (hT : ¬ vT.ownBlock = some O) : Mid w (w2.setCell ⟨O, 0, none⟩ (.slice (some ⟨g, 0, none⟩) (k + 1) cap)) base O k S L vO vT g cap news := by
  refine ⟨heap_setCell_same w2 O 0 _ 49 _ h.blk, ?_, ?_, ?_, h.gT, h.lies, by simpa using h.size, h.hb⟩
  · exact own_blk h.own (fun q hq => Below.heap_setCell _ _ _ _ (by simp [Value.ownBlock] at hq; have := h.gO; simp; omega))
  · exact own_blk h.top (fun q hq => Below.heap_setCell _ _ _ _ (fun e => hT (by rw [← show q = O from e]; exact hq)))
  · exact h.keep.step (Keeps.set (X := [O]) _ _ (by simp) _) (fun x hx => Or.inl (by simp at hx; simp [foot, hx]))

/-- What a push leaves. -/
structure Done (w w' : World) (base O k : Nat) (S L : Nat → ByteArray) (vO vT vO' vT' : Value) : Prop where
  on : ON w' base O (k + 1) S L vO' vT'
  keep : Keeps (foot O vO vT) w w'
  fp : ∀ b ∈ foot O vO' vT', b ∈ foot O vO vT ∨ w.heap.size ≤ b

theorem Mid.short {w3 : World} (h : Mid w w3 base O k S L vO vT g cap [.string (S k), .string (L k), .bool false, .int .i64 0]) (hw : ¬ 64 < wl (S k) (L k)) : Done w w3 base O k S L vO vT (.slice (some ⟨g, 0, none⟩) (k + 1) cap) vT := by
  refine ⟨⟨h.blk, ?_, ?_, h.hb⟩, h.keep, fun b hb => ?_⟩
  · have e : ecells S L (k + 1) = ecells S L k ++ [.string (S k), .string (L k), .bool false, .int .i64 0] := by simp [ecells, hw]
    rw [e]; exact h.own
  · have e1 : sp S L (k + 1) = sp S L k := by simp [sp, hw]
    have e2 : tb S L (k + 1) = tb S L k := by simp [tb, hw]
    rw [e1, e2]; exact h.top
  · simp only [foot, List.mem_cons, List.mem_append, mem_own] at hb ⊢
    rcases hb with hb | hb | hb
    · exact Or.inl (Or.inl hb)
    · simp [Value.ownBlock] at hb
      subst hb
      rcases h.lies with q | q
      · exact Or.inl (Or.inr (Or.inl q))
      · exact Or.inr q
    · exact Or.inl (Or.inr (Or.inr hb))

theorem Mid.long {w3 w4 : World} {g4 c4 n4 : Nat} (h : Mid w w3 base O k S L vO vT g cap [.string ⟨#[]⟩, .string ⟨#[]⟩, .bool true, .int .i64 (sp S L k : Nat)]) (hw : 64 < wl (S k) (L k)) (hT : ¬ vT.ownBlock = some O)
    (N : Named w3 w4 base vT (.slice (some ⟨g4, 0, none⟩) n4 c4) (sp S L k) (tb S L k) (S k) (L k)) : Done w (w4.setCell ⟨O, 3, none⟩ (.slice (some ⟨g4, 0, none⟩) n4 c4)) base O k S L vO vT (.slice (some ⟨g, 0, none⟩) (k + 1) cap) (.slice (some ⟨g4, 0, none⟩) n4 c4) := by
  have hO3 : O < w3.heap.size := (Array.getElem?_eq_some_iff.1 h.blk).1
  have b4 : Blk w4 O (.slice (some ⟨g, 0, none⟩) (k + 1) cap) vT := (N.keep.block O hO3 (fun e => hT (mem_own.1 e))).trans h.blk
  have o4 : w4.ownsRow base 54 4 (.slice (some ⟨g, 0, none⟩) (k + 1) cap) (k + 1) (ecells S L k ++ [.string ⟨#[]⟩, .string ⟨#[]⟩, .bool true, .int .i64 (sp S L k : Nat)]) :=
    own_blk h.own (fun q hq => N.keep.block q (h.own.lt q hq).2 (fun e => by
      have e1 := mem_own.1 e
      simp [Value.ownBlock] at hq
      subst hq
      exact h.gT e1))
  have gO : g ≠ O := fun e => by
    obtain ⟨cur, hc⟩ := own_type o4 (g := g) rfl
    rw [e] at hc
    unfold Blk at b4
    rw [b4] at hc; simp at hc
  have g4O : g4 ≠ O := fun e => by
    obtain ⟨cur, hc⟩ := own_type N.own (g := g4) rfl
    rw [e] at hc
    unfold Blk at b4
    rw [b4] at hc; simp at hc
  refine ⟨⟨heap_setCell_same w4 O 3 _ 49 _ b4, ?_, ?_, h.hb⟩, ?_, fun b hb => ?_⟩
  · have e : ecells S L (k + 1) = ecells S L k ++ [.string ⟨#[]⟩, .string ⟨#[]⟩, .bool true, .int .i64 (sp S L k : Nat)] := by simp [ecells, hw]
    rw [e]
    exact own_blk o4 (fun q hq => Below.heap_setCell _ _ _ _ (by simp [Value.ownBlock] at hq; simp; omega))
  · have e1 : sp S L (k + 1) = sp S L k + wl (S k) (L k) := by simp [sp, hw]
    have e2 : tb S L (k + 1) = tb S L k ++ wby (S k) (L k) := by simp [tb, hw]
    rw [e1, e2]
    exact own_blk N.own (fun q hq => Below.heap_setCell _ _ _ _ (by simp [Value.ownBlock] at hq; simp; omega))
  · exact (h.keep.step N.keep (fun x hx => Or.inl (by simp [foot, mem_own.1 hx]))).step (Keeps.set (X := [O]) _ _ (by simp) _) (fun x hx => Or.inl (by simp at hx; simp [foot, hx]))
  · simp only [foot, List.mem_cons, List.mem_append, mem_own] at hb ⊢
    rcases hb with hb | hb | hb
    · exact Or.inl (Or.inl hb)
    · simp [Value.ownBlock] at hb
      subst hb
      rcases h.lies with q | q
      · exact Or.inl (Or.inr (Or.inl q))
      · exact Or.inr q
    · rcases N.lies b hb with q | q
      · exact Or.inl (Or.inr (Or.inr q))
      · exact Or.inr (Nat.le_trans h.size q)
end

theorem Named.undrew {w w' : World} {base : Nat} {v v' : Value} {t : Nat} {bs : List Int} {s l : ByteArray} (h : Named w.drew w' base v v' t bs s l) : Named w w' base v v' t bs s l := ⟨h.own, h.keep.from_drew, h.lies⟩

theorem Keeps.cell {X : List Nat} {w w' : World} (h : Keeps X w w') {a : Addr} {v : Value} (hc : w.cell? a = some v) (hx : a.block ∉ X) : w'.cell? a = some v :=
  (World.cell?_of_block (w := w) (h.block a.block (World.block_lt_of_cell? w _ hc) hx)).trans hc

set_option maxHeartbeats 1600000 in
theorem push_short (base O k : Nat) (S L : Nat → ByteArray) (vO vT : Value) (w : World) (hk : k ≤ 1048576) (hs : (S k).size ≤ 1048576) (hl : (L k).size ≤ 1048576) (hw : ¬ 64 < wl (S k) (L k)) (h : ON w base O k S L vO vT) :
    Calls Tryf.prog 19 #[.pointer (some ⟨O, 0, none⟩), .agg #[.string (S k), .string (L k)]] w fun e w' => e = .returned .nilIface ∧ ∃ vO' vT', Done w w' base O k S L vO vT vO' vT' := by
  obtain ⟨i0, hi, hz0, hz1, hz2⟩ := info_parts Tryf.info54
  have hO := h.ltO
  have hne : ¬ O = w.heap.size := by omega
  have hne' : ¬ w.heap.size = O := by omega
  have hbs : base ≤ w.heap.size := by have := h.hb; omega
  have H : Hid (ON w base O k S L vO vT) := h
  have hn0 : ¬ vO.ownBlock = some w.heap.size := fun e => by have := (h.own.lt _ e).2; omega
  have hwi : ¬ (64 : Int) < ((wl (S k) (L k) : Nat) : Int) := by omega
  clear h
  go_enter Tryf.func19, Tryf.ntmps19
  go_wp2_with (go_at_call 22; refine (wLen (S k) (L k) _ hs hl).mono ?_; rintro e w' ⟨rfl, rfl⟩)
  have hb1 : Below w.heap.size w ((w.alloc (.cells #[.string (S k), .string (L k)] 52)).alloc (.cells #[.string (S k), .string (L k)] 52)) := ((Below.refl _ _).alloc (Nat.le_refl _) _).alloc (by simp) _
  have n0 : ((w.alloc (.cells #[.string (S k), .string (L k)] 52)).alloc (.cells #[.string (S k), .string (L k)] 52)).cell? ⟨w.heap.size, 0, none⟩ = some (.string (S k)) := by simp [go_sem]
  have n1 : ((w.alloc (.cells #[.string (S k), .string (L k)] 52)).alloc (.cells #[.string (S k), .string (L k)] 52)).cell? ⟨w.heap.size, 1, none⟩ = some (.string (L k)) := by simp [go_sem]
  generalize (w.alloc (.cells #[.string (S k), .string (L k)] 52)).alloc (.cells #[.string (S k), .string (L k)] 52) = w1 at hb1 n0 n1 ⊢
  have hs1 := hb1.size
  have hon1 := H.out.below hb1
  have c0 := hon1.cells.1
  have c0' : ∀ z, (w1.alloc z).cell? ⟨O, 0, none⟩ = some vO := fun z => (World.cell?_alloc_lt w1 z _ (by show O < _; omega)).trans c0
  have HB : Hid (Below w.heap.size w w1 ∧ w1.ownsRow base 54 4 vO k (ecells S L k)) := ⟨hb1, hon1.own⟩
  clear hb1 hon1
  go_region_law ((refine step_append_lies _ (by rfl) _ _ 43 (by rfl) base 54 i0 _ 4 48 Tryf.underlying43 hi hz0 hz1 hz2 rfl (by decide) vO k (ecells S L k) (by rfl) (HB.out.2.alloc _) ⟨w1.heap.size, 0, none⟩ 1 1 [.string (S k), .string (L k), .bool false, .int .i64 0] (by rfl) rfl (news_at _ _ #[.string (S k), .string (L k), .bool false, .int .i64 0] _ (by simp)) (by simp [Value.oneCell']) (by decide) (by unfold maxLen; omega) (by omega) (by simp; omega) (w1.heap.size + 1) (by simp) ?_; intro g cap w2 hown2 hgrow2 hat2 hlt2; have P2 : Pre w w2 base O k S L vO vT g cap [.string (S k), .string (L k), .bool false, .int .i64 0] := pre_of H.out (by exact (HB.out.1.alloc hs1 _).drew) hown2 hgrow2 (by simpa using hat2); have d0 := P2.blk.cells.1; have f0 := P2.blk.free 0))
  all_goals (go_wp2; go_ret; exact ⟨rfl, _, _, (P2.store H.out.neT).short hw⟩)

set_option maxHeartbeats 1600000 in
theorem push_long (base O k : Nat) (S L : Nat → ByteArray) (vO vT : Value) (w : World) (hk : k ≤ 1048576) (hs : (S k).size ≤ 1048576) (hl : (L k).size ≤ 1048576) (hsp : sp S L k ≤ 1048576) (hw : 64 < wl (S k) (L k)) (h : ON w base O k S L vO vT) :
    Calls Tryf.prog 19 #[.pointer (some ⟨O, 0, none⟩), .agg #[.string (S k), .string (L k)]] w fun e w' => e = .returned .nilIface ∧ ∃ vO' vT', Done w w' base O k S L vO vT vO' vT' := by
  obtain ⟨i0, hi, hz0, hz1, hz2⟩ := info_parts Tryf.info54
  obtain ⟨aT, cT, hvT⟩ := own_slice h.top
  have hO := h.ltO
  have hne : ¬ O = w.heap.size := by omega
  have hne' : ¬ w.heap.size = O := by omega
  have hbs : base ≤ w.heap.size := by have := h.hb; omega
  have H : Hid (ON w base O k S L vO vT) := h
  have HV : Hid (vT = .slice aT (sp S L k) cT) := hvT
  have hn0 : ¬ vO.ownBlock = some w.heap.size := fun e => by have := (h.own.lt _ e).2; omega
  have hwi : (64 : Int) < ((wl (S k) (L k) : Nat) : Int) := by omega
  clear h hvT
  go_enter Tryf.func19, Tryf.ntmps19
  go_wp2_with (go_at_call 22; refine (wLen (S k) (L k) _ hs hl).mono ?_; rintro e w' ⟨rfl, rfl⟩)
  have hb1 : Below w.heap.size w ((w.alloc (.cells #[.string (S k), .string (L k)] 52)).alloc (.cells #[.string (S k), .string (L k)] 52)) := ((Below.refl _ _).alloc (Nat.le_refl _) _).alloc (by simp) _
  have n0 : ((w.alloc (.cells #[.string (S k), .string (L k)] 52)).alloc (.cells #[.string (S k), .string (L k)] 52)).cell? ⟨w.heap.size, 0, none⟩ = some (.string (S k)) := by simp [go_sem]
  have n1 : ((w.alloc (.cells #[.string (S k), .string (L k)] 52)).alloc (.cells #[.string (S k), .string (L k)] 52)).cell? ⟨w.heap.size, 1, none⟩ = some (.string (L k)) := by simp [go_sem]
  generalize (w.alloc (.cells #[.string (S k), .string (L k)] 52)).alloc (.cells #[.string (S k), .string (L k)] 52) = w1 at hb1 n0 n1 ⊢
  have hs1 := hb1.size
  have hon1 := H.out.below hb1
  have c0 := hon1.cells.1
  have HC : Hid (w1.cell? ⟨O, 2, none⟩ = some (.int .i64 0) ∧ w1.cell? ⟨O, 3, none⟩ = some (.slice aT (sp S L k) cT)) := ⟨hon1.cells.2.2.1, by rw [← HV.out]; exact hon1.cells.2.2.2.1⟩
  have c0' : ∀ z, (w1.alloc z).cell? ⟨O, 0, none⟩ = some vO := fun z => (World.cell?_alloc_lt w1 z _ (by show O < _; omega)).trans c0
  have c0'' : ∀ m z, ((w1.drewN m).alloc z).cell? ⟨O, 0, none⟩ = some vO := fun m z => (World.cell?_alloc_lt (w1.drewN m) z _ (by show O < w1.heap.size; omega)).trans c0
  have HB : Hid (Below w.heap.size w w1 ∧ w1.ownsRow base 54 4 vO k (ecells S L k)) := ⟨hb1, hon1.own⟩
  clear hb1 hon1
  go_region_law ((first | (refine step_append_lies _ (by rfl) _ _ 43 (by rfl) base 54 i0 _ 4 48 Tryf.underlying43 hi hz0 hz1 hz2 rfl (by decide) vO k (ecells S L k) (by rfl) (HB.out.2.alloc _) ⟨w1.heap.size, 0, none⟩ 1 1 [.string ⟨#[]⟩, .string ⟨#[]⟩, .bool true, .int .i64 (sp S L k : Nat)] (by rfl) rfl (news_at _ _ #[.string ⟨#[]⟩, .string ⟨#[]⟩, .bool true, .int .i64 (sp S L k : Nat)] _ (by simp)) (by simp [Value.oneCell']) (by decide) (by unfold maxLen; omega) (by omega) (by simp; omega) (w1.heap.size + 1) (by simp) ?_; intro g cap w2 hown2 hgrow2 hat2 hlt2; have P2 : Pre w w2 base O k S L vO vT g cap [.string ⟨#[]⟩, .string ⟨#[]⟩, .bool true, .int .i64 (sp S L k : Nat)] := pre_of H.out (by exact below_drewN (HB.out.1.alloc hs1 _) _) hown2 hgrow2 (by simpa using hat2); have d0 := P2.blk.cells.1; have f0 := P2.blk.free 0; have CK := cells_kept (w1 := w1) (by exact below_drewN ((Below.refl w1.heap.size w1).alloc (Nat.le_refl _) _) _) hgrow2; have m0 := CK _ _ _ n0 hn0; have m1 := CK _ _ _ n1 hn0; clear CK) | (go_simp; go_at_call 21; refine (size_any O aT (sp S L k) cT _ (by omega) (by exact HC.out.1) (by exact HC.out.2)).mono ?_; rintro e wS ⟨rfl, mS, rfl⟩)))
  all_goals
    have MID := P2.store H.out.neT
    have k0 : (w2.setCell ⟨O, 0, none⟩ (.slice (some ⟨g, 0, none⟩) (k + 1) cap)).cell? ⟨w.heap.size, 0, none⟩ = some (.string (S k)) := (World.cell?_setCell_far _ _ _ _ hne).trans m0
    have k1 : (w2.setCell ⟨O, 0, none⟩ (.slice (some ⟨g, 0, none⟩) (k + 1) cap)).cell? ⟨w.heap.size, 1, none⟩ = some (.string (L k)) := (World.cell?_setCell_far _ _ _ _ hne).trans m1
    go_wp2_with fail
    generalize w2.setCell ⟨O, 0, none⟩ (.slice (some ⟨g, 0, none⟩) (k + 1) cap) = w3 at MID k0 k1 ⊢
    have HM : Hid (Mid w w3 base O k S L vO vT g cap [.string ⟨#[]⟩, .string ⟨#[]⟩, .bool true, .int .i64 (sp S L k : Nat)]) := MID
    have hs3 := MID.size
    have hxT : ¬ vT.ownBlock = some w.heap.size := fun e => by have := (H.out.top.lt _ e).2; omega
    have hxm : w.heap.size ∉ vT.ownBlock.toList := fun e => hxT (mem_own.1 e)
    clear MID P2 d0 f0 m0 m1 hown2 hgrow2 hat2 hlt2 c0 c0' c0'' HC HB n0 n1 hxT
    go_region_held3 (fun w' => w'.cell? ⟨w.heap.size, 0, none⟩ = some (.string (S k)) ∧ w'.cell? ⟨w.heap.size, 1, none⟩ = some (.string (L k)))
      (first | go_keep | exact ⟨N4.keep.cell k0 hxm, N4.keep.cell k1 hxm⟩)
      (first
        | (go_at_call 25; refine (buffer_any O vT _ (by exact HM.out.blk.cells.2.2.2.1)).mono ?_; rintro e wB ⟨rfl, rfl⟩)
        | (go_at_call 24; refine (appendName base (sp S L k) vT (tb S L k) (S k) (L k) _ hs hl (by omega) (by exact HM.out.top) (by simp; omega)).mono ?_; rintro e w4 ⟨v4, rfl, N4⟩; obtain ⟨g4, c4, hv4, _, _⟩ := N4.own.form (by omega); subst hv4; have B4 : Blk w4 O (.slice (some ⟨g, 0, none⟩) (k + 1) cap) vT := (N4.keep.block O (by show O < w3.heap.size; omega) (fun e => H.out.neT (mem_own.1 e))).trans HM.out.blk)
        | (go_at_call 23; refine (commit_any O (some ⟨g4, 0, none⟩) _ c4 vT w4 B4.cells.2.1 B4.cells.2.2.2.1 B4.cells.2.2.2.2 (B4.free 3)).mono ?_; rintro e w5 ⟨rfl, rfl⟩))
    go_wp2
    go_ret
    exact ⟨rfl, _, _, HM.out.long hw H.out.neT N4.undrew⟩

/-- ZZpush. -/
theorem push (base O k : Nat) (S L : Nat → ByteArray) (vO vT : Value) (w : World) (hk : k ≤ 1048576) (hs : (S k).size ≤ 1048576) (hl : (L k).size ≤ 1048576) (hsp : sp S L k ≤ 1048576) (h : ON w base O k S L vO vT) :
    Calls Tryf.prog 9 #[.pointer (some ⟨O, 0, none⟩), .string (S k), .string (L k)] w fun e w' => e = .returned .nilIface ∧ ∃ vO' vT', Done w w' base O k S L vO vT vO' vT' := by
  have HP : Hid (Calls Tryf.prog 19 #[.pointer (some ⟨O, 0, none⟩), .agg #[.string (S k), .string (L k)]] w fun e w' => e = .returned .nilIface ∧ ∃ vO' vT', Done w w' base O k S L vO vT vO' vT') := by
    by_cases hw : 64 < wl (S k) (L k)
    · exact push_long base O k S L vO vT w hk hs hl hsp hw h
    · exact push_short base O k S L vO vT w hk hs hl hw h
  clear h
  go_enter Tryf.func9, Tryf.ntmps9
  go_wp2_with (go_at_call 19; refine HP.out.mono ?_; rintro e w1 ⟨rfl, D⟩)
  go_ret
  exact ⟨rfl, D⟩
end Go.Proofs.Qxb6608526aFmt
