import Derived.Test.Qxb6606013aTx
namespace Go.Proofs.Qxb6606013a
open Go.ChangeShapes Go.WideShapes Go.ChangeAt Go.RowKit
set_option linter.unusedVariables false

theorem after1 {o : ByteArray} {wv : Int} {dm : Bool} {n : Nat} {K P W : Nat → Int} (h : anyUp n (bWave K P W wv) = true) : after o wv dm n K P W = (sPrep, o, wv) := by simp [after, h]
theorem after2 {o : ByteArray} {wv : Int} {n : Nat} {K P W : Nat → Int} (h : anyUp n (bWave K P W wv) = false) : after o wv true n K P W = (endOf n P, sAbo, wv) := by simp [after, h]
theorem after3 {o : ByteArray} {wv : Int} {n : Nat} {K P W : Nat → Int} (h : anyUp n (bWave K P W wv) = false) (h2 : anyUp n (bPZ K P) = true) : after o wv false n K P W = (sPrep, o, wrap64 (wv + 1)) := by simp [after, h, h2]
theorem after4 {o : ByteArray} {wv : Int} {n : Nat} {K P W : Nat → Int} (h : anyUp n (bWave K P W wv) = false) (h2 : anyUp n (bPZ K P) = false) (h3 : anyUp n (bEnl P) = true) : after o wv false n K P W = (sPrep, o, wv) := by simp [after, h, h2, h3]
theorem after5 {o : ByteArray} {wv : Int} {n : Nat} {K P W : Nat → Int} (h : anyUp n (bWave K P W wv) = false) (h2 : anyUp n (bPZ K P) = false) (h3 : anyUp n (bEnl P) = false) : after o wv false n K P W = (endOf n P, sCom, wv) := by simp [after, h, h2, h3]

set_option maxHeartbeats 800000 in
theorem answered (T S n i : Nat) (p : Int) (o : ByteArray) (l sd : Bool) (wv : Int) (dm : Bool) (K P W : Nat → Int) (w : World) (hn : n ≤ 4096) (hi : i < n) (h : Tx w T S n sPrep o l sd wv dm K P W) :
    Calls Try.prog 14 #[.pointer (some ⟨T, 0, none⟩), .int .i64 i, .int .u8 p] w fun e w' => e = .returned (.tuple #[]) ∧
      Tx w' T S n (after o wv dm n K (upd P i p) W).1 (after o wv dm n K (upd P i p) W).2.1 l sd (after o wv dm n K (upd P i p) W).2.2 dm K (upd P i p) W ∧ Keeps [T, S] w w' := by
  have hT := h.ltT
  have hS := h.lt
  have h1 : Tx (w.alloc (.cells #[.pointer (some ⟨T, 0, none⟩)] 29)) T S n sPrep o l sd wv dm K P W := h.below ((Below.refl _ _).alloc (Nat.le_refl _) _)
  have c6 := h1.cells.2.2.2.2.2.2
  obtain ⟨_, b1, _⟩ := h1.br i hi
  have f1 := h1.fz (i * 3 + 1)
  have h2 : Tx ((w.setCell ⟨S, i * 3 + 1, none⟩ (.int .u8 p)).alloc (.cells #[.pointer (some ⟨T, 0, none⟩)] 29)) T S n sPrep o l sd wv dm K (upd P i p) W := (h.setP i hi p).below ((Below.refl _ _).alloc (Nat.le_refl _) _)
  have k2 : Keeps [T, S] w ((w.setCell ⟨S, i * 3 + 1, none⟩ (.int .u8 p)).alloc (.cells #[.pointer (some ⟨T, 0, none⟩)] 29)) := (Keeps.set _ _ (by simp) _).trans (Keeps.of_below ((Below.refl _ _).alloc (Nat.le_refl _) _))
  have hC : ((w.setCell ⟨S, i * 3 + 1, none⟩ (.int .u8 p)).alloc (.cells #[.pointer (some ⟨T, 0, none⟩)] 29)).cell? ⟨w.heap.size, 0, none⟩ = some (.pointer (some ⟨T, 0, none⟩)) := by
    rw [World.cell?_alloc_at _ _ _ _ (by simp)]; rfl
  have d6 := h2.cells.2.2.2.2.2.2
  have H2 : Hid (Tx ((w.setCell ⟨S, i * 3 + 1, none⟩ (.int .u8 p)).alloc (.cells #[.pointer (some ⟨T, 0, none⟩)] 29)) T S n sPrep o l sd wv dm K (upd P i p) W) := h2
  have HK : Hid (Keeps [T, S] w ((w.setCell ⟨S, i * 3 + 1, none⟩ (.int .u8 p)).alloc (.cells #[.pointer (some ⟨T, 0, none⟩)] 29))) := k2
  have HLT : Hid (w.heap.size < ((w.setCell ⟨S, i * 3 + 1, none⟩ (.int .u8 p)).alloc (.cells #[.pointer (some ⟨T, 0, none⟩)] 29)).heap.size) := show _ < _ by simp
  clear h h1 h2 k2
  generalize hQ : upd P i p = Q at *
  clear hQ
  obtain ⟨bw, hbw⟩ : ∃ bw, anyUp n (bWave K Q W wv) = bw := ⟨_, rfl⟩
  have HW : Hid (anyUp n (bWave K Q W wv) = bw) := hbw
  clear hbw
  cases bw
  · cases dm
    · obtain ⟨pz, hpz⟩ : ∃ pz, anyUp n (bPZ K Q) = pz := ⟨_, rfl⟩
      have HP : Hid (anyUp n (bPZ K Q) = pz) := hpz
      clear hpz
      cases pz
      · obtain ⟨en, hen⟩ : ∃ en, anyUp n (bEnl Q) = en := ⟨_, rfl⟩
        have HEN : Hid (anyUp n (bEnl Q) = en) := hen
        clear hen
        cases en
        · rw [after5 HW.out HP.out HEN.out]
          go_enter Try.func14, Try.ntmps14
          go_wp2_with (first
            | (go_at_call 18; refine (any19 S n w.heap.size T wv K Q W _ hn H2.out.br hC H2.out.cells.2.2.2.2.1).mono ?_; rintro e w1 ⟨rfl, hb⟩; rw [HW.out]; have t1 := H2.out.below hb; have e5 := t1.cells.2.2.2.2.2.1; have hC1 := (hb.cell (p := ⟨w.heap.size, 0, none⟩) HLT.out).trans hC)
            | (go_at_call 22; refine (inPZ T S n o l sd wv false K Q W w1 hn t1).mono ?_; rintro e w2 ⟨rfl, hb2⟩; rw [HP.out]; have t2 := t1.below hb2; have hC2 := (hb2.cell (p := ⟨w.heap.size, 0, none⟩) (Nat.lt_of_lt_of_le HLT.out hb.size)).trans hC1)
            | (go_at_call 23; refine (anyNone T S n sPrep o l sd wv false K Q W w2 hn t2).mono ?_; rintro e w3 ⟨rfl, hb3⟩; rw [HEN.out]; have t3 := t2.below hb3; have hC3 := (hb3.cell (p := ⟨w.heap.size, 0, none⟩) (Nat.lt_of_lt_of_le HLT.out (Nat.le_trans hb.size hb2.size))).trans hC2)
            | (go_at_call 21; refine (decide_any T S n sPrep o _ l sd wv false K Q W w3 hn t3).mono ?_; rintro e w4 ⟨rfl, t4, k4⟩))
          go_end0
          exact ⟨rfl, t4, (((HK.out.trans (Keeps.of_below hb)).trans (Keeps.of_below hb2)).trans (Keeps.of_below hb3)).trans (k4.sub (by simp))⟩
        · rw [after4 HW.out HP.out HEN.out]
          go_enter Try.func14, Try.ntmps14
          go_wp2_with (first
            | (go_at_call 18; refine (any19 S n w.heap.size T wv K Q W _ hn H2.out.br hC H2.out.cells.2.2.2.2.1).mono ?_; rintro e w1 ⟨rfl, hb⟩; rw [HW.out]; have t1 := H2.out.below hb; have e5 := t1.cells.2.2.2.2.2.1; have hC1 := (hb.cell (p := ⟨w.heap.size, 0, none⟩) HLT.out).trans hC)
            | (go_at_call 22; refine (inPZ T S n o l sd wv false K Q W w1 hn t1).mono ?_; rintro e w2 ⟨rfl, hb2⟩; rw [HP.out]; have t2 := t1.below hb2; have hC2 := (hb2.cell (p := ⟨w.heap.size, 0, none⟩) (Nat.lt_of_lt_of_le HLT.out hb.size)).trans hC1)
            | (go_at_call 23; refine (anyNone T S n sPrep o l sd wv false K Q W w2 hn t2).mono ?_; rintro e w3 ⟨rfl, hb3⟩; rw [HEN.out]; have t3 := t2.below hb3))
          go_end0
          exact ⟨rfl, t3, ((HK.out.trans (Keeps.of_below hb)).trans (Keeps.of_below hb2)).trans (Keeps.of_below hb3)⟩
      · rw [after3 HW.out HP.out]
        go_enter Try.func14, Try.ntmps14
        go_wp2_with (first
          | (go_at_call 18; refine (any19 S n w.heap.size T wv K Q W _ hn H2.out.br hC H2.out.cells.2.2.2.2.1).mono ?_; rintro e w1 ⟨rfl, hb⟩; rw [HW.out]; have t1 := H2.out.below hb; have e5 := t1.cells.2.2.2.2.2.1; have hC1 := (hb.cell (p := ⟨w.heap.size, 0, none⟩) HLT.out).trans hC)
          | (go_at_call 22; refine (inPZ T S n o l sd wv false K Q W w1 hn t1).mono ?_; rintro e w2 ⟨rfl, hb2⟩; rw [HP.out]; have t2 := t1.below hb2; have e4 := t2.cells.2.2.2.2.1; have g4 := t2.free 4; have hC2 := (hb2.cell (p := ⟨w.heap.size, 0, none⟩) (Nat.lt_of_lt_of_le HLT.out hb.size)).trans hC1))
        go_end0
        exact ⟨rfl, t2.set4 _, ((HK.out.trans (Keeps.of_below hb)).trans (Keeps.of_below hb2)).trans (Keeps.set _ _ (by simp) _)⟩
    · rw [after2 HW.out]
      go_enter Try.func14, Try.ntmps14
      go_wp2_with (first
        | (go_at_call 18; refine (any19 S n w.heap.size T wv K Q W _ hn H2.out.br hC H2.out.cells.2.2.2.2.1).mono ?_; rintro e w1 ⟨rfl, hb⟩; rw [HW.out]; have t1 := H2.out.below hb; have e5 := t1.cells.2.2.2.2.2.1; have hC1 := (hb.cell (p := ⟨w.heap.size, 0, none⟩) HLT.out).trans hC)
        | (go_at_call 21; refine (decide_any T S n sPrep o _ l sd wv true K Q W w1 hn t1).mono ?_; rintro e w4 ⟨rfl, t4, k4⟩))
      go_end0
      exact ⟨rfl, t4, (HK.out.trans (Keeps.of_below hb)).trans (k4.sub (by simp))⟩
  · rw [after1 HW.out]
    go_enter Try.func14, Try.ntmps14
    go_wp2_with (go_at_call 18; refine (any19 S n w.heap.size T wv K Q W _ hn H2.out.br hC H2.out.cells.2.2.2.2.1).mono ?_; rintro e w1 ⟨rfl, hb⟩; rw [HW.out]; have t1 := H2.out.below hb)
    go_returns
    exact ⟨rfl, t1, HK.out.trans (Keeps.of_below hb)⟩
/-- ZZansweredPhaseZero. -/
theorem zzAnswered (T S n i : Nat) (p : Int) (o : ByteArray) (l sd : Bool) (wv : Int) (dm : Bool) (K P W : Nat → Int) (w : World) (hn : n ≤ 4096) (hi : i < n) (h : Tx w T S n sPrep o l sd wv dm K P W) :
    Calls Try.prog 9 #[.pointer (some ⟨T, 0, none⟩), .int .i64 i, .int .u8 p] w fun e w' => e = .returned (.tuple #[]) ∧
      Tx w' T S n (after o wv dm n K (upd P i p) W).1 (after o wv dm n K (upd P i p) W).2.1 l sd (after o wv dm n K (upd P i p) W).2.2 dm K (upd P i p) W ∧ Keeps [T, S] w w' := by
  have H := answered T S n i p o l sd wv dm K P W w hn hi h
  clear h
  go_enter Try.func9, Try.ntmps9
  go_wp2_with (go_at_call 14; refine H.mono ?_; rintro e w1 ⟨rfl, t1, k1⟩)
  go_end0
  exact ⟨rfl, t1, k1⟩

/-- ZZtxState. -/
theorem txState (T S n : Nat) (s o : ByteArray) (l sd : Bool) (wv : Int) (dm : Bool) (K P W : Nat → Int) (w : World) (h : Tx w T S n s o l sd wv dm K P W) :
    Calls Try.prog 15 #[.pointer (some ⟨T, 0, none⟩)] w fun e w' => e = .returned (.tuple #[.string s, .string o, .bool l, .bool sd, .int .i64 wv, .bool dm]) ∧ ∃ m, w' = w.drewN m := by
  obtain ⟨c0, c1, c2, c3, c4, c5, c6⟩ := h.cells
  clear h c6
  go_enter Try.func15, Try.ntmps15
  go_wp2
  go_quiet (fail)
  go_wp2
  exact bodyPost_ret (v := .tuple #[.string s, .string o, .bool l, .bool sd, .int .i64 wv, .bool dm]) (by simp [results, Try.results15, go_sem]) rfl ⟨rfl, _, rfl⟩

end Go.Proofs.Qxb6606013a
