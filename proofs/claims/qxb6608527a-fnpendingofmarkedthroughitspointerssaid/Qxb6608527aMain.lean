import Derived.Test.Qxb6608527aMark
import Derived.LaidEqlPtr
namespace Go.Proofs.Qxb6608527a
open Go.ChangeShapes Go.WideShapes Go.ChangeAt Go.RowKit
set_option linter.unusedVariables false
attribute [local go_sem ↓] Go.wp_at_zero Go.wp_at_succ

/-- All eight cells of recipient i. -/
theorem Row.cells8 {w : World} {g n k : Nat} {A S : Nat → ByteArray} (h : Row w g n k A S) {i : Nat} (hi : i < k) : w.cell? ⟨g, i * 8, none⟩ = some (.string (A i)) ∧ w.cell? ⟨g, i * 8 + 1, none⟩ = some (.string (S i)) ∧ w.cell? ⟨g, i * 8 + 2, none⟩ = some (.string ⟨#[]⟩) ∧ w.cell? ⟨g, i * 8 + 3, none⟩ = some (.string ⟨#[]⟩) ∧ w.cell? ⟨g, i * 8 + 4, none⟩ = some (.int .u64 0) ∧ w.cell? ⟨g, i * 8 + 5, none⟩ = some (.int .i64 0) ∧ w.cell? ⟨g, i * 8 + 6, none⟩ = some (.pointer none) ∧ w.cell? ⟨g, i * 8 + 7, none⟩ = some (.int .i64 0) :=
  ⟨h.rng i hi 0 _ rfl, h.rng i hi 1 _ rfl, h.rng i hi 2 _ rfl, h.rng i hi 3 _ rfl, h.rng i hi 4 _ rfl, h.rng i hi 5 _ rfl, h.rng i hi 6 _ rfl, h.rng i hi 7 _ rfl⟩

theorem neq_same (w : World) (a : Addr) : (binOp .neq 41 (.pointer (some a)) (.pointer (some a))).run Try.prog w = .ok (.bool false) w := by
  obtain ⟨i0, hi, _, hz1, _⟩ := info_parts Try.info40
  have h : ∀ d : Nat, (Op.equalIn (d + 1) 41 (.pointer (some a)) (.pointer (some a))).run Try.prog w = .ok true w := fun d => by
    simp [Op.equalIn, run_underlying Try.underlying41, sizeOf, typeInfo, hi, run_sameAddr_same]
  simp only [binOp]
  simp [Op.equal, Op.maxDepth, h 9999]

set_option maxRecDepth 100000 in
set_option maxHeartbeats 4000000 in
theorem main_walk (a1 a2 : Option Addr) (n1 c1 n2 c2 : Nat) (F1 F2 : Nat → ByteArray) (w : World) (h1 : n1 ≤ maxLen) (h2 : n2 ≤ maxLen) (hF1 : Strs w a1 n1 F1) (hF2 : Strs w a2 n2 F2) :
    Calls Try.prog 5 #[.slice a1 n1 c1, .slice a2 n2 c2] w fun e w' => e = .returned (.bool true) ∧ Below w.heap.size w w' := by
  have HF : Hid (Strs w a1 n1 F1 ∧ Strs w a2 n2 F2) := ⟨hF1, hF2⟩
  have H9 : Hid (Calls Try.prog 9 #[.slice a1 n1 c1, .slice a2 n2 c2] w fun e w' => AnyBool e ∧ w = w') := bytes9 a1 a2 n1 c1 n2 c2 F1 F2 w h1 h2 hF1 hF2
  clear hF1 hF2 h1 h2
  go_enter Try.func5, Try.ntmps5
  go_wp2_with fail
  refine H9.out.mono ?_
  rintro e w' ⟨⟨b, rfl⟩, rfl⟩
  clear H9
  cases b with
  | false =>
    go_wp2
    go_ret
    exact ⟨rfl, Below.refl _ _⟩
  | true =>
    by_cases hb1 : 65536 < n1
    · have hb1' : (65536 : Int) < (n1 : Int) := by omega
      go_wp2
      go_ret
      exact ⟨rfl, Below.refl _ _⟩
    by_cases hb2 : 65536 < n2
    · have hb1' : ¬ (65536 : Int) < (n1 : Int) := by omega
      have hb2' : (65536 : Int) < (n2 : Int) := by omega
      go_wp2
      go_ret
      exact ⟨rfl, Below.refl _ _⟩
    have hb1' : ¬ (65536 : Int) < (n1 : Int) := by omega
    have hb2' : ¬ (65536 : Int) < (n2 : Int) := by omega
    go_wp2_with fail
    refine (size10 a1 a2 n1 c1 n2 c2 F1 F2 w (by omega) (by omega) HF.out.1 HF.out.2).mono ?_
    rintro e w' ⟨⟨b, rfl⟩, rfl⟩
    cases b with
    | false =>
      go_wp2
      go_ret
      exact ⟨rfl, Below.refl _ _⟩
    | true =>
      clear hb1' hb2'
      go_wp2_with fail
      refine (entryOf a1 a2 n1 c1 n2 c2 F1 F2 w (by omega) HF.out.1 HF.out.2).mono ?_
      rintro e w1 ⟨⟨E, g, rfl, hE, hg, hgE⟩, hbl1⟩
      have hE1 : E < w1.heap.size := World.block_lt_of_cell? w1 _ hE.ent
      have H1 : Hid (Ent w1 E g n1 (adr n2 F2) F1 ∧ Below w.heap.size w w1) := ⟨hE, hbl1⟩
      clear hE hbl1
      go_wp2_with fail
      refine (pend12 E g n1 (adr n2 F2) F1 w1 (by omega) H1.out.1).mono ?_
      rintro e w2 ⟨⟨ap, cp, rfl, hP⟩, hbl2⟩
      obtain ⟨m, hm⟩ : ∃ m, m = (pl F1 n1).length := ⟨_, rfl⟩
      obtain ⟨f, hf⟩ : ∃ f : Nat → Nat, f = fun k => (pl F1 n1).getD k 0 := ⟨_, rfl⟩
      have hmn : m ≤ n1 := by rw [hm]; exact pl_length_le _ _
      have HX : Hid (m = (pl F1 n1).length ∧ f = fun k => (pl F1 n1).getD k 0) := ⟨hm, hf⟩
      have HI : Hid (∀ k, k < m → f k < n1 ∧ F1 (f k) = pend ∧ (pl F1 (f k)).length = k) := fun k hk => by rw [hf]; exact pl_idx F1 (by rw [← hm]; exact hk)
      have HM2 : Hid (Mem w w2 E g n1 0 m w1.heap.size ap (adr n2 F2) F1 f) := ⟨by rw [mkd_zero]; exact H1.out.1.below hbl2, by rw [hm, hf]; exact hP, H1.out.2.trans (hbl2.mono H1.out.2.size)⟩
      rw [← hm]
      obtain ⟨lo, hlo⟩ : ∃ lo, lo = w1.heap.size := ⟨_, rfl⟩
      rw [← hlo] at HM2 hE1
      clear hP hbl2 hm hf H1 hlo
      go_wp2_with fail
      refine (countP a1 n1 c1 F1 w2 (by omega) (HF.out.1.below HM2.out.bel)).mono ?_
      rintro e w' ⟨rfl, rfl⟩
      rw [← HX.out.1]
      obtain ⟨z, hmk⟩ := run_make_recs w2 m (by omega)
      have HR0 : Hid (Row (w2.alloc (.cells (madeCells z (m * 8)) 40)) w2.heap.size m 0 (fun k => adr n2 F2 (f k)) (fun k => F1 (f k)) ∧ Below w2.heap.size w2 (w2.alloc (.cells (madeCells z (m * 8)) 40)) ∧ w2.heap.size < (w2.alloc (.cells (madeCells z (m * 8)) 40)).heap.size) := ⟨Row.made w2 z m _ _, (Below.refl _ _).alloc (Nat.le_refl _) _, by simp⟩
      go_wp2_with fail
      go_loopw [9] (fun i wx => ∃ k : Nat, k ≤ m ∧ i = .int .i64 k ∧ Row wx w2.heap.size m k (fun k => adr n2 F2 (f k)) (fun k => F1 (f k)) ∧ Below w2.heap.size w2 wx ∧ w2.heap.size < wx.heap.size) (fun i _ => m - (intOf i).toNat)
      case atStart => exact ⟨0, Nat.zero_le _, rfl, HR0.out⟩
      case round =>
        clear HR0 hmk
        obtain ⟨k, hk, rfl, hrow, hbel, hsz⟩ := hrel
        have HR : Hid (Row wr w2.heap.size m k (fun k => adr n2 F2 (f k)) (fun k => F1 (f k)) ∧ Below w2.heap.size w2 wr ∧ w2.heap.size < wr.heap.size) := ⟨hrow, hbel, hsz⟩
        clear hrow hbel hsz
        by_cases hlt : k < m
        · have HMr := HM2.out.below HR.out.2.1
          obtain ⟨gp, rfl, hgp, hcp⟩ := HMr.ptr.at (by omega)
          have c1' := hcp k hlt
          obtain ⟨l0, l1, l2, l3, l4, l5, l6, l7⟩ := HMr.ent.row.cells8 (HI.out k hlt).1
          rw [mkd_zero] at l1
          have t1 : wr.there w2.heap.size (k * 8) 8 := there_sub HR.out.1.thr (by omega)
          obtain ⟨u0, u1, u2, u3, u4, u5, u6, u7, ⟨g0, g1, g2, g3, g4, g5, g6, g7⟩, f0, f1, f2, f3, f4, f5, f6, f7⟩ := there8 t1
          have i1 : (0 : Int) ≤ (k : Int) := by omega
          have i2 : (k : Int) < (m : Int) := by omega
          clear t1 HMr hcp
          go_wp2
          rw [rc_set]
          have R7 := row_step HR.out.1 hlt HR.out.2.1 (Nat.le_refl _) HR.out.2.2
          generalize wr.setCells w2.heap.size (k * 8) (rc (adr n2 F2 (f k)) (F1 (f k))) = wz at R7 ⊢
          have R8 : Hid (Row wz w2.heap.size m (k + 1) (fun k => adr n2 F2 (f k)) (fun k => F1 (f k)) ∧ Below w2.heap.size w2 wz ∧ w2.heap.size < wz.heap.size) := R7
          clear R7 g0 g1 g2 g3 g4 g5 g6 g7 f0 f1 f2 f3 f4 f5 f6 f7 l0 l1 l2 l3 l4 l5 l6 l7 c1' HR
          go_wp2
          go_roundw
          case rel => exact ⟨k + 1, by omega, by go_num, R8.out⟩
          case measure => simp [intOf]; omega
        · obtain rfl : m = k := by omega
          obtain ⟨wC, rfl⟩ : ∃ x, x = wr := ⟨_, rfl⟩
          go_wp2_with fail
          have hpl : pl (fun k => F1 (f k)) m = List.range m := pl_all _ (fun k hk => (HI.out k hk).2.1)
          refine (pend12 wC.heap.size w2.heap.size m (fun k => adr n2 F2 (f k)) (fun k => F1 (f k)) _ (by omega) ⟨by simp [go_sem], HR.out.1.below ((Below.refl _ _).alloc (Nat.le_refl _) _)⟩).mono ?_
          rintro e w5 ⟨⟨a5, c5, rfl, hP5⟩, hb5⟩
          rw [hpl, List.length_range] at hP5
          rw [hpl, List.length_range]
          have hbC : Below wC.heap.size wC w5 := ((Below.refl _ _).alloc (Nat.le_refl _) _).trans (hb5.mono (by simp))
          have H5 : Hid (Mem w w5 E g n1 0 m lo ap (adr n2 F2) F1 f ∧ Ent w5 wC.heap.size w2.heap.size m (fun k => adr n2 F2 (f k)) (fun k => F1 (f k)) ∧ Ptrs w5 a5 m (fun k => k) w2.heap.size 0) :=
            ⟨HM2.out.below (HR.out.2.1.trans (hbC.mono HR.out.2.1.size)), Ent.below ⟨by simp [go_sem], HR.out.1.below ((Below.refl _ _).alloc (Nat.le_refl _) _)⟩ hb5, by
              rcases hP5 with h | ⟨gp, ha, hl, hc⟩
              · exact Or.inl h
              · exact Or.inr ⟨gp, ha, Nat.zero_le _, fun k hk => by have := hc k hk; simpa [hk] using this⟩⟩
          clear hP5 hb5 hbC HR HM2 hpl
          obtain ⟨E2, hE2⟩ : ∃ x, x = wC.heap.size := ⟨_, rfl⟩
          obtain ⟨g2, hg2⟩ : ∃ x, x = w2.heap.size := ⟨_, rfl⟩
          rw [← hE2, ← hg2] at H5
          rw [← hE2, ← hg2]
          clear hE2 hg2
          go_wp2_with fail
          go_loopw [12] (fun i wx => ∃ k : Nat, k ≤ m ∧ i = .int .i64 k ∧ Below w5.heap.size w5 wx) (fun i _ => m - (intOf i).toNat)
          case atStart => exact ⟨0, Nat.zero_le _, rfl, Below.refl _ _⟩
          case round =>
            obtain ⟨k, hk, rfl, hbx⟩ := hrel
            have HB : Hid (Below w5.heap.size w5 wr) := hbx
            clear hbx
            by_cases hlt : k < m
            · obtain ⟨gq, rfl, _, hcq⟩ := (H5.out.2.2.below HB.out).at (by omega)
              have q1 := hcq k hlt
              have q2 := (H5.out.2.1.below HB.out).ent
              have i1 : (0 : Int) ≤ (k : Int) := by omega
              have i2 : (k : Int) < (m : Int) := by omega
              clear hcq
              have hneq := neq_same
              go_wp2
              go_quiet (fail)
              clear hneq
              go_wp2
              go_roundw
              case rel => first | exact ⟨k + 1, by omega, by go_num, below_drewN HB.out _⟩ | ((repeat apply Exists.intro); exact ⟨⟨k + 1, by omega, by go_num, below_drewN HB.out _⟩, rfl⟩)
              case measure => simp [intOf]; omega
            · obtain rfl : m = k := by omega
              obtain ⟨wD, rfl⟩ : ∃ x, x = wr := ⟨_, rfl⟩
              go_wp2_with fail
              go_loopw [13, 14] (fun t i wx => ∃ k : Nat, k ≤ n1 ∧ i = .int .i64 k ∧ t = .int .i64 ((pl F1 k).length : Nat) ∧ Below w5.heap.size w5 wx) (fun _ i _ => n1 - (intOf i).toNat)
              case atStart => exact ⟨0, Nat.zero_le _, rfl, rfl, HB.out⟩
              case round =>
                clear HB
                obtain ⟨k, hk, rfl, rfl, hbx⟩ := hrel
                have HB : Hid (Below w5.heap.size w5 wr) := hbx
                clear hbx
                have hle := pl_length_le F1 k
                by_cases hlt : k < n1
                · obtain ⟨b1, o1, rfl, r1⟩ := (HF.out.1.below (H5.out.1.below HB.out).bel).at (by omega)
                  have q1 := r1 k hlt
                  have i1 : (0 : Int) ≤ (k : Int) := by omega
                  have i2 : (k : Int) < (n1 : Int) := by omega
                  clear r1
                  by_cases hp : F1 k = pend
                  · have hd : ((F1 k).toList == [112, 101, 110, 100, 105, 110, 103]) = true := by rw [pend_beq]; simp [hp]
                    have HL : Hid ((pl F1 (k + 1)).length = (pl F1 k).length + 1) := by show _ = _; simp [pl, hp]
                    have hat := pl_at F1 hlt hp
                    have hlm : (pl F1 k).length < m := by rw [HX.out.1]; exact hat.1
                    have q2 := ((H5.out.2.1.below HB.out).row.cells hlm).1
                    have hfk : f (pl F1 k).length = k := by rw [HX.out.2]; exact hat.2
                    simp only [hfk] at q2
                    have i3 : (0 : Int) ≤ ((pl F1 k).length : Int) := by omega
                    have i4 : ((pl F1 k).length : Int) < (m : Int) := by omega
                    clear hat hp hfk
                    go_wp2_with fail
                    go_quiet (first | (go_at_call 14; refine Calls.quiet_of_same ((addrAt a2 n2 c2 k F2 _ (HF.out.2.below (below_drewN (H5.out.1.below HB.out).bel _))).mono (fun e w' h => ⟨h.1, h.2.symm⟩))))
                    go_wp2
                    go_roundw
                    case rel => first | exact ⟨k + 1, by omega, by go_num, by rw [HL.out]; go_num, below_drewN HB.out _⟩ | ((repeat apply Exists.intro); exact ⟨⟨k + 1, by omega, by go_num, by rw [HL.out]; go_num, below_drewN HB.out _⟩, rfl⟩)
                    case measure => simp [intOf]; omega
                  · have hd : ((F1 k).toList == [112, 101, 110, 100, 105, 110, 103]) = false := by rw [pend_beq]; simp [hp]
                    have HL : Hid ((pl F1 (k + 1)).length = (pl F1 k).length) := by show _ = _; simp [pl, hp]
                    clear hp
                    go_wp2
                    go_roundw
                    case rel => first | exact ⟨k + 1, by omega, by go_num, by rw [HL.out], HB.out⟩ | ((repeat apply Exists.intro); exact ⟨⟨k + 1, by omega, by go_num, by rw [HL.out], HB.out⟩, rfl⟩)
                    case measure => simp [intOf]; omega
                · obtain rfl : n1 = k := by omega
                  have HM6 : Hid (Mem w wr E g n1 0 m lo ap (adr n2 F2) F1 f) := H5.out.1.below HB.out
                  obtain ⟨wG, rfl⟩ : ∃ x, x = wr := ⟨_, rfl⟩
                  clear H5 HB
                  go_wp2_with fail
                  go_loopw [15] (fun i wx => ∃ j : Nat, j ≤ m ∧ i = .int .i64 j ∧ Mem w wx E g n1 j m lo ap (adr n2 F2) F1 f) (fun i _ => m - (intOf i).toNat)
                  case atStart => exact ⟨0, Nat.zero_le _, rfl, HM6.out⟩
                  case round =>
                    clear HM6
                    obtain ⟨j, hj, rfl, hmem⟩ := hrel
                    have HM : Hid (Mem w wr E g n1 j m lo ap (adr n2 F2) F1 f) := hmem
                    clear hmem
                    by_cases hlt : j < m
                    · obtain ⟨gp, rfl, hgp, hcp⟩ := HM.out.ptr.at (by omega)
                      have q1 := hcp j hlt
                      have q2 := (HM.out.ent.row.cells (HI.out j hlt).1).2
                      have t1 := (there_sub (o := f j * 8) (m := 8) HM.out.ent.row.thr (by have := (HI.out j hlt).1; omega) 1 (by omega)).2
                      have i1 : (0 : Int) ≤ (j : Int) := by omega
                      have i2 : (j : Int) < (m : Int) := by omega
                      have R8 : Hid (Mem w (wr.setCell ⟨g, f j * 8 + 1, none⟩ (.string ⟨#[100, 101, 108, 105, 118, 101, 114, 101, 100]⟩)) E g n1 (j + 1) m lo (some ⟨gp, 0, none⟩) (adr n2 F2) F1 f) :=
                        HM.out.mark (by omega) (by rw [← HX.out.1]; exact hlt) (by rw [HX.out.2]) hg (by omega)
                      clear hcp
                      go_wp2
                      go_roundw
                      case rel => exact ⟨j + 1, by omega, by go_num, R8.out⟩
                      case measure => simp [intOf]; omega
                    · obtain rfl : m = j := by omega
                      obtain ⟨wH, rfl⟩ : ∃ x, x = wr := ⟨_, rfl⟩
                      go_wp2_with fail
                      have hpl : pl (mkd F1 m) n1 = [] := by rw [HX.out.1]; exact mkd_none F1 n1
                      refine (pend12 E g n1 (adr n2 F2) (mkd F1 m) _ (by omega) HM.out.ent).mono ?_
                      rintro e w7 ⟨⟨a7, c7, rfl, _⟩, hb7⟩
                      rw [hpl]
                      have HM7 : Hid (Mem w w7 E g n1 m m lo ap (adr n2 F2) F1 f) := HM.out.below hb7
                      clear HM hb7 hpl
                      go_wp2_with fail
                      go_loopw [16] (fun i wx => ∃ k : Nat, k ≤ n1 ∧ i = .int .i64 k ∧ Below w7.heap.size w7 wx) (fun i _ => n1 - (intOf i).toNat)
                      case atStart => exact ⟨0, Nat.zero_le _, rfl, Below.refl _ _⟩
                      case round =>
                        obtain ⟨k, hk, rfl, hbx⟩ := hrel
                        have HM : Hid (Mem w wr E g n1 m m lo ap (adr n2 F2) F1 f ∧ Below w7.heap.size w7 wr) := ⟨HM7.out.below hbx, hbx⟩
                        clear hbx
                        by_cases hlt : k < n1
                        · obtain ⟨b1, o1, rfl, r1⟩ := (HF.out.1.below HM.out.1.bel).at (by omega)
                          have q1 := r1 k hlt
                          have q2 := HM.out.1.ent.ent
                          obtain ⟨l0, l1, l2, l3, l4, l5, l6, l7⟩ := HM.out.1.ent.row.cells8 hlt
                          have i1 : (0 : Int) ≤ (k : Int) := by omega
                          have i2 : (k : Int) < (n1 : Int) := by omega
                          clear r1
                          have hend : mkd F1 m k = if F1 k = pend then dlv else F1 k := by rw [HX.out.1]; exact mkd_end F1 hlt
                          rw [hend] at l1
                          clear hend
                          by_cases hp : F1 k = pend
                          · have hd : ((F1 k).toList == [112, 101, 110, 100, 105, 110, 103]) = true := by rw [pend_beq]; simp [hp]
                            rw [if_pos hp] at l1
                            unfold dlv at l1
                            clear hp
                            go_wp2_with fail
                            go_quiet (first | (go_at_call 14; refine Calls.quiet_of_same ((addrAt a2 n2 c2 k F2 _ (HF.out.2.below (below_drewN (HM.out.1.bel.alloc HM.out.1.bel.size _) _))).mono (fun e w' h => ⟨h.1, h.2.symm⟩))))
                            go_wp2
                            go_roundw
                            case rel => first | exact ⟨k + 1, by omega, by go_num, below_drewN (HM.out.2.alloc HM.out.2.size _) _⟩ | ((repeat apply Exists.intro); exact ⟨⟨k + 1, by omega, by go_num, below_drewN (HM.out.2.alloc HM.out.2.size _) _⟩, rfl⟩)
                            case measure => simp [intOf]; omega
                          · have hd : ((F1 k).toList == [112, 101, 110, 100, 105, 110, 103]) = false := by rw [pend_beq]; simp [hp]
                            rw [if_neg hp] at l1
                            clear hp
                            go_wp2_with fail
                            go_quiet (first | (go_at_call 14; refine Calls.quiet_of_same ((addrAt a2 n2 c2 k F2 _ (HF.out.2.below (below_drewN (HM.out.1.bel.alloc HM.out.1.bel.size _) _))).mono (fun e w' h => ⟨h.1, h.2.symm⟩))))
                            go_wp2
                            go_roundw
                            case rel => first | exact ⟨k + 1, by omega, by go_num, below_drewN (HM.out.2.alloc HM.out.2.size _) _⟩ | ((repeat apply Exists.intro); exact ⟨⟨k + 1, by omega, by go_num, below_drewN (HM.out.2.alloc HM.out.2.size _) _⟩, rfl⟩)
                            case measure => simp [intOf]; omega
                        · obtain rfl : n1 = k := by omega
                          go_wp2
                          go_ret
                          exact ⟨rfl, HM.out.1.bel⟩
end Go.Proofs.Qxb6608527a
