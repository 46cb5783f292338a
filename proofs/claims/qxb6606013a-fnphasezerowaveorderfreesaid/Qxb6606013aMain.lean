import Derived.Test.Qxb6606013aSt
namespace Go.Proofs.Qxb6606013a
open Go.ChangeShapes Go.WideShapes Go.ChangeAt Go.RowKit
set_option linter.unusedVariables false

set_option maxRecDepth 100000 in
set_option maxHeartbeats 4000000 in
theorem main (o : ByteArray) (l sd : Bool) (wv : Int) (dm : Bool) (K P W A : Nat → Int) (ak ap aw an : Option Addr) (n ck cp cw ca : Nat) (w : World) (h2 : o.size ≤ maxLen) (hn : n ≤ 4096)
    (z1 : ak = none → n = 0 ∧ ck = 0) (z2 : ap = none → n = 0 ∧ cp = 0) (z3 : aw = none → n = 0 ∧ cw = 0) (z4 : an = none → n = 0 ∧ ca = 0)
    (hK : Reads .u8 w ak n K) (hP : Reads .u8 w ap n P) (hW : Reads .i64 w aw n W) (hA : Reads .u8 w an n A) :
    Calls Try.prog 3 #[.string sPrep, .string o, .bool l, .bool sd, .int .i64 wv, .bool dm, .slice ak n ck, .slice ap n cp, .slice aw n cw, .slice an n ca] w fun e w' => e = .returned (.bool true) ∧ Below w.heap.size w w' := by
  have hn' : n ≤ maxLen := by unfold maxLen; omega
  have HB : Hid (∀ w, Calls Try.prog 4 #[.string sPrep, .string o, .bool l, .bool sd, .int .i64 wv, .bool dm, .slice ak n ck, .slice ap n cp, .slice aw n cw, .slice an n ca] w fun e w' => ∃ b, e = .returned (.bool b) ∧ w = w') :=
    fun w => bytes_any sPrep o l sd wv dm ak ap aw an n ck n cp n cw n ca w (by unfold maxLen; decide) h2 hn' hn' hn' hn'
  have HZ : Hid ((ak = none → n = 0 ∧ ck = 0) ∧ (ap = none → n = 0 ∧ cp = 0) ∧ (aw = none → n = 0 ∧ cw = 0) ∧ (an = none → n = 0 ∧ ca = 0)) := ⟨z1, z2, z3, z4⟩
  have HR : Hid (Reads .u8 w ak n K ∧ Reads .u8 w ap n P ∧ Reads .i64 w aw n W ∧ Reads .u8 w an n A) := ⟨hK, hP, hW, hA⟩
  clear z1 z2 z3 z4 hK hP hW hA hn'
  unfold maxLen at h2
  unfold sPrep at HB ⊢
  go_enter Try.func3, Try.ntmps3
  go_wp2_with (go_at_call 4; refine (HB.out _).mono ?_; rintro e w' ⟨b, rfl, rfl⟩)
  all_goals try (go_ret; exact ⟨rfl, Below.refl _ _⟩)
  clear HB
  go_loop [22] (fun i => ∃ k : Nat, k ≤ n ∧ i = .int .i64 k) (fun i => n - (intOf i).toNat)
  case atStart => exact ⟨0, Nat.zero_le _, rfl⟩
  case round =>
    obtain ⟨k, hk, rfl⟩ := hrel
    by_cases hlt : k < n
    · clear HZ
      obtain ⟨b1, o1, rfl, r1⟩ := HR.out.1.at (by omega)
      obtain ⟨b2, o2, rfl, r2⟩ := HR.out.2.1.at (by omega)
      obtain ⟨b3, o3, rfl, r3⟩ := HR.out.2.2.1.at (by omega)
      obtain ⟨b4, o4, rfl, r4⟩ := HR.out.2.2.2.at (by omega)
      have R1 := r1 k hlt
      have R2 := r2 k hlt
      have R3 := r3 k hlt
      have R4 := r4 k hlt
      clear r1 r2 r3 r4 HR
      by_cases e1 : K k = 3
      · have t1 : (K k == 3) = true := by simp [e1]
        clear e1
        by_cases e2 : P k = 0
        · have t2 : (P k == 0) = true := by simp [e2]
          clear e2
          by_cases e3 : W k = wv
          · have t3 : (W k == wv) = true := by simp [e3]
            clear e3
            by_cases e4 : A k = 2
            · have t4 : (A k != 2) = false := by simp [e4]
              clear e4
              go_wp2
              go_round
              case rel => first | exact ⟨k + 1, by omega, by first | go_num | omega⟩ | ((repeat apply Exists.intro); exact ⟨⟨k + 1, by omega, by first | go_num | omega⟩, rfl⟩)
              case measure => simp [intOf]; omega
            · have t4 : (A k != 2) = true := by simp [e4]
              clear e4
              by_cases e5 : A k = 3
              · have t5 : (A k != 3) = false := by simp [e5]
                clear e5
                go_wp2
                go_round
                case rel => first | exact ⟨k + 1, by omega, by first | go_num | omega⟩ | ((repeat apply Exists.intro); exact ⟨⟨k + 1, by omega, by first | go_num | omega⟩, rfl⟩)
                case measure => simp [intOf]; omega
              · have t5 : (A k != 3) = true := by simp [e5]
                clear e5
                go_wp2
                go_ret
                exact ⟨rfl, Below.refl _ _⟩
          · have t3 : (W k == wv) = false := by simp [e3]
            clear e3
            go_wp2
            go_round
            case rel => first | exact ⟨k + 1, by omega, by first | go_num | omega⟩ | ((repeat apply Exists.intro); exact ⟨⟨k + 1, by omega, by first | go_num | omega⟩, rfl⟩)
            case measure => simp [intOf]; omega
        · have t2 : (P k == 0) = false := by simp [e2]
          clear e2
          go_wp2
          go_round
          case rel => first | exact ⟨k + 1, by omega, by first | go_num | omega⟩ | ((repeat apply Exists.intro); exact ⟨⟨k + 1, by omega, by first | go_num | omega⟩, rfl⟩)
          case measure => simp [intOf]; omega
      · have t1 : (K k == 3) = false := by simp [e1]
        clear e1
        go_wp2
        go_round
        case rel => first | exact ⟨k + 1, by omega, by first | go_num | omega⟩ | ((repeat apply Exists.intro); exact ⟨⟨k + 1, by omega, by first | go_num | omega⟩, rfl⟩)
        case measure => simp [intOf]; omega
    · go_wp2_with fail
      refine (copyU8 ak n ck K w hn HZ.out.1 HR.out.1).mono ?_
      rintro e w1 ⟨ak1, rfl, rK1, hb1⟩
      have HR1 : Hid (Reads .u8 w1 ak1 n K ∧ Reads .u8 w1 ap n P ∧ Reads .i64 w1 aw n W ∧ Reads .u8 w1 an n A ∧ Below w.heap.size w w1) := ⟨rK1, HR.out.2.1.below hb1, HR.out.2.2.1.below hb1, HR.out.2.2.2.below hb1, hb1⟩
      clear rK1 hb1 HR
      go_wp2_with fail
      refine (copyU8 ap n cp P w1 hn HZ.out.2.1 HR1.out.2.1).mono ?_
      rintro e w2 ⟨ap2, rfl, rP2, hb2⟩
      have HR2 : Hid (Reads .u8 w2 ak1 n K ∧ Reads .u8 w2 ap2 n P ∧ Reads .i64 w2 aw n W ∧ Reads .u8 w2 an n A ∧ Below w.heap.size w w2) := ⟨HR1.out.1.below hb2, rP2, HR1.out.2.2.1.below hb2, HR1.out.2.2.2.1.below hb2, HR1.out.2.2.2.2.trans (hb2.mono HR1.out.2.2.2.2.size)⟩
      clear rP2 hb2 HR1
      go_wp2_with fail
      refine (copyInt aw n cw W w2 hn HZ.out.2.2.1 HR2.out.2.2.1).mono ?_
      rintro e w3 ⟨aw3, rfl, rW3, hb3⟩
      have HR3 : Hid (Reads .u8 w3 ak1 n K ∧ Reads .u8 w3 ap2 n P ∧ Reads .i64 w3 aw3 n W ∧ Reads .u8 w3 an n A ∧ Below w.heap.size w w3) := ⟨HR2.out.1.below hb3, HR2.out.2.1.below hb3, rW3, HR2.out.2.2.2.1.below hb3, HR2.out.2.2.2.2.trans (hb3.mono HR2.out.2.2.2.2.size)⟩
      clear rW3 hb3 HR2
      go_wp2_with fail
      refine (copyU8 an n ca A w3 hn HZ.out.2.2.2 HR3.out.2.2.2.1).mono ?_
      rintro e w4 ⟨an4, rfl, rA4, hb4⟩
      have HR4 : Hid (Reads .u8 w4 ak1 n K ∧ Reads .u8 w4 ap2 n P ∧ Reads .i64 w4 aw3 n W ∧ Reads .u8 w4 an4 n A ∧ Below w.heap.size w w4) := ⟨HR3.out.1.below hb4, HR3.out.2.1.below hb4, HR3.out.2.2.1.below hb4, rA4, HR3.out.2.2.2.2.trans (hb4.mono HR3.out.2.2.2.2.size)⟩
      clear rA4 hb4 HR3 HZ
      obtain ⟨i0, hi, hz0, hz1, hz2⟩ := info_parts Try.info3
      have hmk := run_make_row' (P := Try.prog) 22 5 (.int .u8 0) 1 Try.underlying22 Try.info5 rfl .i64 .i64 n (by omega) (by omega)
      go_wp2_with (at_make; refine wpList_make_own _ rfl (.const (.int .i64 0)) (.tmp 131) 23 rfl w4.heap.size 3 i0 (.int .i64 0) 1 Try.underlying23 hi hz0 hz1 _ _ _ n rfl rfl (by omega) (by rw [hz2]; omega) (by unfold maxLen; omega) (Nat.le_refl _) ?_; intro w5 hown5 hgrow5)
      have hg2 : w4.heap.size < w5.heap.size := (hown5.lt w4.heap.size rfl).2
      have hb5 : Below w4.heap.size w4 w5 := (Below.refl _ _).grown hgrow5 (Nat.le_refl _) (by simp)
      have hst0 : St K P W A wv n w4.heap.size w5.heap.size w4 (w5.alloc (.cells (madeCells #[.int .u8 0] n) 5)) 0 :=
        ⟨hown5.alloc _, (World.rowIs_made w5 (.int .u8 0) n 5).congr (fun i _ => by simp), hb5.alloc (by omega) _, hg2⟩
      clear hown5 hgrow5 hb5 hmk
      go_loopw [23, 25] (fun v i wr => ∃ k : Nat, k ≤ n ∧ i = .int .i64 k ∧ v = .slice (some ⟨w4.heap.size, 0, none⟩) (mems K P W wv k).length n ∧ St K P W A wv n w4.heap.size w5.heap.size w4 wr k ∧ w5.heap.size < wr.heap.size) (fun _ i _ => n - (intOf i).toNat)
      case atStart => exact ⟨0, Nat.zero_le _, rfl, rfl, hst0, by simp⟩
      case round =>
        clear hst0
        obtain ⟨k, hk, rfl, rfl, hst, hsz⟩ := hrel
        have hml := mems_le (K := K) (P := P) (W := W) (wv := wv) k
        have HST : Hid (St K P W A wv n w4.heap.size w5.heap.size w4 wr k) := hst
        clear hst
        by_cases hlt : k < n
        · obtain ⟨b1, o1, rfl, r1⟩ := HR4.out.1.at (by omega)
          obtain ⟨b2, o2, rfl, r2⟩ := HR4.out.2.1.at (by omega)
          obtain ⟨b3, o3, rfl, r3⟩ := HR4.out.2.2.1.at (by omega)
          obtain ⟨b4, o4, rfl, r4⟩ := HR4.out.2.2.2.1.at (by omega)
          have l1 : b1 < w4.heap.size := World.block_lt_of_cell? w4 _ (r1 k hlt)
          have l2 : b2 < w4.heap.size := World.block_lt_of_cell? w4 _ (r2 k hlt)
          have l3 : b3 < w4.heap.size := World.block_lt_of_cell? w4 _ (r3 k hlt)
          have l4 : b4 < w4.heap.size := World.block_lt_of_cell? w4 _ (r4 k hlt)
          have R1 := cell_later HST.out.bel (r1 k hlt)
          have R2 := cell_later HST.out.bel (r2 k hlt)
          have R3 := cell_later HST.out.bel (r3 k hlt)
          have R4 := r4 k hlt
          have c2 := HST.out.row.cell (i := k) hlt
          have f2 := HST.out.row.frozen k
          simp only [Nat.lt_irrefl, if_false] at c2
          clear r1 r2 r3 r4 HR4
          by_cases e1 : K k = 3
          · have t1 : (K k == 3) = true := by simp [e1]
            by_cases e2 : P k = 0
            · have t2 : (P k == 0) = true := by simp [e2]
              by_cases e3 : W k = wv
              · have t3 : (W k == wv) = true := by simp [e3]
                have HM : Hid (mem K P W wv k = true) := by show mem K P W wv k = true; simp [mem, e1, e2, e3]
                clear e1 e2 e3
                have HOW : Hid (((wr.setCell ⟨w5.heap.size, k, none⟩ (.int .u8 (P k))).alloc (.cells #[.int .i64 (k : Int)] 3)).ownsRow w4.heap.size 3 1 (.slice (some ⟨w4.heap.size, 0, none⟩) (mems K P W wv k).length n) (mems K P W wv k).length ((mems K P W wv k).map fun (j : Nat) => Value.int .i64 (j : Int))) :=
                  (owns_block HST.out.own (Below.heap_setCell _ _ _ _ (by simp; omega))).alloc _
                go_wp2_with (at_builtin; refine wpList_append_fits _ rfl (.tmp 167) (.tmp 169) 23 rfl w4.heap.size 3 i0 1 Try.underlying23 hi hz1 w4.heap.size (mems K P W wv k).length n _ rfl HOW.out ⟨wr.heap.size, 0, none⟩ 1 1 [.int .i64 (k : Int)] rfl rfl (news_at _ _ #[.int .i64 (k : Int)] 3 (by simp)) (by simp [Value.oneCell']) (by omega) ?_; intro w6 hown6 hgrow6; have b6 := HST.out.bel2 hgrow6 (by omega); have r6 := HST.out.row2 hgrow6; have c6 := r6.cell (i := k) hlt; simp only [if_true] at c6; have f6 := r6.frozen k; have q4 := cell_later b6 R4)
                go_roundw
                case rel => exact ⟨k + 1, by omega, by go_num, by rw [mems_yes HM.out]; simp, HST.out.yes HM.out (by omega) hown6 hgrow6, by have := hgrow6.size; simp at this ⊢; omega⟩
                case measure => simp [intOf]; omega
              · have t3 : (W k == wv) = false := by simp [e3]
                have HM : Hid (mem K P W wv k = false) := by show mem K P W wv k = false; simp [mem, e1, e2, e3]
                clear e1 e2 e3
                go_wp2
                go_roundw
                case rel => exact ⟨k + 1, by omega, by go_num, by rw [mems_no HM.out], HST.out.no HM.out, by simpa using hsz⟩
                case measure => simp [intOf]; omega
            · have t2 : (P k == 0) = false := by simp [e2]
              have HM : Hid (mem K P W wv k = false) := by show mem K P W wv k = false; simp [mem, e2]
              clear e1 e2
              go_wp2
              go_roundw
              case rel => exact ⟨k + 1, by omega, by go_num, by rw [mems_no HM.out], HST.out.no HM.out, by simpa using hsz⟩
              case measure => simp [intOf]; omega
          · have t1 : (K k == 3) = false := by simp [e1]
            have HM : Hid (mem K P W wv k = false) := by show mem K P W wv k = false; simp [mem, e1]
            clear e1
            go_wp2
            go_roundw
            case rel => exact ⟨k + 1, by omega, by go_num, by rw [mems_no HM.out], HST.out.no HM.out, by simpa using hsz⟩
            case measure => simp [intOf]; omega
        · obtain rfl : n = k := by omega
          have RD : Hid (Reads .u8 wr ak1 n K ∧ Reads .u8 wr ap2 n P ∧ Reads .i64 wr aw3 n W ∧ Reads .u8 wr an4 n A ∧ Below w.heap.size w wr) :=
            ⟨HR4.out.1.below HST.out.bel, HR4.out.2.1.below HST.out.bel, HR4.out.2.2.1.below HST.out.bel, HR4.out.2.2.2.1.below HST.out.bel, HR4.out.2.2.2.2.trans (HST.out.bel.mono HR4.out.2.2.2.2.size)⟩
          have RM : Hid (Reads .i64 wr (some ⟨w4.heap.size, 0, none⟩) (mems K P W wv n).length (fun j => ((mems K P W wv n).getD j 0 : Nat)) ∧ Reads .u8 wr (some ⟨w5.heap.size, 0, none⟩) n (pg A P (mems K P W wv n))) := ⟨HST.out.members, HST.out.final⟩
          have hg4 : w4.heap.size < wr.heap.size := by omega
          have hwz : w.heap.size ≤ wr.heap.size := RD.out.2.2.2.2.size
          clear HST HR4
          obtain ⟨wE, rfl⟩ : ∃ x, x = wr := ⟨_, rfl⟩
          rcases Nat.eq_zero_or_pos (mems K P W wv n).length with hm0 | hmp
          · have EP : Hid (pg A P (mems K P W wv n) = P) := by show pg A P _ = P; funext j; simp [pg, List.eq_nil_of_length_eq_zero hm0]
            have RF : Hid (Reads .u8 wE (some ⟨w5.heap.size, 0, none⟩) n P) := by have := RM.out.2; rw [EP.out] at this; exact this
            go_wp2_with fail
            refine (build sPrep o l sd wv dm K P W ak1 ap2 aw3 n n n n wE hn RD.out.1 RD.out.2.1 RD.out.2.2.1).mono ?_
            rintro e w6 ⟨T1, S1, rfl, tx6, hS1, hT1, hb6⟩
            have s6 := hb6.size
            have TX6 : Hid (Tx w6 T1 S1 n sPrep o l sd wv dm K P W ∧ Below wE.heap.size wE w6) := ⟨tx6, hb6⟩
            clear tx6 hb6
            go_wp2_with fail
            refine (build sPrep o l sd wv dm K P W ak1 ap2 aw3 n n n n w6 hn (RD.out.1.below TX6.out.2) (RD.out.2.1.below TX6.out.2) (RD.out.2.2.1.below TX6.out.2)).mono ?_
            rintro e w7 ⟨T2, S2, rfl, tx7, hS2, hT2, hb7⟩
            have TX7 : Hid (Tx w7 T1 S1 n sPrep o l sd wv dm K P W ∧ Tx w7 T2 S2 n sPrep o l sd wv dm K P W ∧ Below wE.heap.size wE w7) := ⟨TX6.out.1.below hb7, tx7, TX6.out.2.trans (hb7.mono s6)⟩
            clear tx7 hb7 TX6
            go_wp2_with fail
            refine wp_loop_rounds 1 ?_
            rw [rounds_succ]
            go_wp2_with fail
            refine wp_loop_rounds 1 ?_
            rw [rounds_succ]
            go_wp2_with fail
            refine (checkTx T1 S1 n sPrep o l sd wv dm K P W ak1 (some ⟨w5.heap.size, 0, none⟩) aw3 n n n w7 hn TX7.out.1 (RD.out.1.below TX7.out.2.2) (RF.out.below TX7.out.2.2) (RD.out.2.2.1.below TX7.out.2.2)).mono ?_
            rintro e wA ⟨rfl, hbA⟩
            have HBA : Hid (Below wE.heap.size wE wA ∧ Tx wA T2 S2 n sPrep o l sd wv dm K P W) := ⟨TX7.out.2.2.trans (hbA.mono TX7.out.2.2.size), TX7.out.2.1.below hbA⟩
            clear hbA TX7
            go_wp2_with fail
            refine (checkTx T2 S2 n sPrep o l sd wv dm K P W ak1 (some ⟨w5.heap.size, 0, none⟩) aw3 n n n wA hn HBA.out.2 (RD.out.1.below HBA.out.1) (RF.out.below HBA.out.1) (RD.out.2.2.1.below HBA.out.1)).mono ?_
            rintro e wB ⟨rfl, hbB⟩
            go_wp2_with fail
            go_ret
            exact ⟨rfl, (RD.out.2.2.2.2.trans (HBA.out.1.mono hwz)).trans (hbB.mono (Nat.le_trans hwz HBA.out.1.size))⟩
          · have hmi : (0 : Int) < ((mems K P W wv n).length : Int) := by omega
            go_wp2_with fail
            refine (afterAnswer o wv dm K (pg A P (mems K P W wv n)) W ak1 (some ⟨w5.heap.size, 0, none⟩) aw3 n n n n wE hn RD.out.1 RM.out.2 RD.out.2.2.1).mono ?_
            rintro e wq ⟨rfl, rfl⟩
            obtain ⟨want, hwant⟩ : ∃ want, want = after o wv dm n K (pg A P (mems K P W wv n)) W := ⟨_, rfl⟩
            rw [← hwant]
            have HWANT : Hid (want = after o wv dm n K (pg A P (mems K P W wv n)) W) := hwant
            clear hwant
            go_wp2_with fail
            refine (build sPrep o l sd wv dm K P W ak1 ap2 aw3 n n n n wE hn RD.out.1 RD.out.2.1 RD.out.2.2.1).mono ?_
            rintro e w6 ⟨T1, S1, rfl, tx6, hS1, hT1, hb6⟩
            have s6 := hb6.size
            have q1 := tx6.ltT
            have q2 := tx6.lt
            have TX6 : Hid (Tx w6 T1 S1 n sPrep o l sd wv dm K P W ∧ Below wE.heap.size wE w6) := ⟨tx6, hb6⟩
            clear tx6 hb6
            go_wp2_with fail
            refine (build sPrep o l sd wv dm K P W ak1 ap2 aw3 n n n n w6 hn (RD.out.1.below TX6.out.2) (RD.out.2.1.below TX6.out.2) (RD.out.2.2.1.below TX6.out.2)).mono ?_
            rintro e w7 ⟨T2, S2, rfl, tx7, hS2, hT2, hb7⟩
            have s7 := hb7.size
            have q3 := tx7.ltT
            have q4 := tx7.lt
            have TX7 : Hid (Tx w7 T1 S1 n sPrep o l sd wv dm K P W ∧ Tx w7 T2 S2 n sPrep o l sd wv dm K P W ∧ Below wE.heap.size wE w7) := ⟨TX6.out.1.below hb7, tx7, TX6.out.2.trans (hb7.mono s6)⟩
            clear tx7 hb7 TX6
            go_wp2_with fail
            have e0 : pg A P ((mems K P W wv n).take 0) = P := by funext j; simp [pg]
            have E0 : Hid (pg A P ((mems K P W wv n).take 0) = P) := e0
            clear e0
            go_loopw [32] (fun i wx => ∃ k : Nat, k ≤ (mems K P W wv n).length ∧ i = .int .i64 k ∧ Tx wx T1 S1 n (headUp o wv want (mems K P W wv n).length k).1 (headUp o wv want (mems K P W wv n).length k).2.1 l sd (headUp o wv want (mems K P W wv n).length k).2.2 dm K (pg A P ((mems K P W wv n).take k)) W ∧ Keeps [T1, S1] w7 wx) (fun i _ => (mems K P W wv n).length - (intOf i).toNat)
            case atStart => exact ⟨0, Nat.zero_le _, rfl, by rw [headUp_lt hmp, E0.out]; exact TX7.out.1, Keeps.refl _ _⟩
            case round =>
              clear E0
              obtain ⟨k, hk, rfl, htx, hkp⟩ := hrel
              have HKP : Hid (Keeps [T1, S1] w7 wr) := hkp
              have HBW : Hid (Below wE.heap.size wE wr) := TX7.out.2.2.trans (hkp.below (by omega) (by simp; omega))
              clear hkp
              by_cases hlt : k < (mems K P W wv n).length
              · rw [headUp_lt hlt] at htx
                have HTX : Hid (Tx wr T1 S1 n sPrep o l sd wv dm K (pg A P ((mems K P W wv n).take k)) W) := htx
                clear htx
                obtain ⟨i, hi⟩ : ∃ i, i = (mems K P W wv n)[k] := ⟨_, rfl⟩
                have HI : Hid (i = (mems K P W wv n)[k]) := hi
                have hin : i < n := by
                  rw [hi]; exact (mems_iff.1 (List.getElem_mem hlt)).1
                obtain ⟨b4, o4, rfl, r4⟩ := RD.out.2.2.2.1.at (by omega)
                obtain ⟨bm, om, hbm, rm⟩ := RM.out.1.at (by omega)
                obtain ⟨rfl, rfl⟩ : bm = w4.heap.size ∧ om = 0 := by
                  simp at hbm; omega
                have l4 : b4 < wE.heap.size := World.block_lt_of_cell? wE _ (r4 i hin)
                have d1 : wr.cell? ⟨w4.heap.size, k, none⟩ = some (.int .i64 (i : Int)) := by
                  have := cell_later HBW.out (rm k hlt)
                  simp only [Nat.zero_add] at this
                  rw [this, hi]; simp [hlt]
                have d2 : wr.cell? ⟨b4, o4 + i, none⟩ = some (.int .u8 (A i)) := cell_later HBW.out (r4 i hin)
                clear hi hbm rm r4
                have i1 : (0 : Int) ≤ (k : Int) := by omega
                have i2 : (k : Int) < ((mems K P W wv n).length : Int) := by omega
                have i3 : (0 : Int) ≤ (i : Int) := by omega
                have i4 : (i : Int) < (n : Int) := by omega
                go_wp2_with fail
                go_region_held3 (fun w' => w'.cell? ⟨w4.heap.size, k, none⟩ = some (.int .i64 (i : Int)) ∧ w'.cell? ⟨b4, o4 + i, none⟩ = some (.int .u8 (A i)))
                  (first | go_keep | exact ⟨kp8.cell d1 (by simp; omega), kp8.cell d2 (by simp; omega)⟩)
                  (first
                    | (go_at_call 9; refine (zzAnswered T1 S1 n i (A i) o l sd wv dm K (pg A P ((mems K P W wv n).take k)) W _ hn hin HTX.out.drew).mono ?_; rintro e w8 ⟨rfl, tx8, kp8⟩))
                have e1 : upd (pg A P ((mems K P W wv n).take k)) i (A i) = pg A P ((mems K P W wv n).take (k + 1)) := by rw [HI.out]; exact up_step hlt
                rw [e1] at tx8
                have HK8 : Hid (Keeps [T1, S1] w7 w8) := HKP.out.drew.trans kp8
                clear e1 kp8 d1 d2 HI HTX HKP HBW i1 i3 i4
                by_cases hlast : k + 1 < (mems K P W wv n).length
                · rw [after_mid (List.getElem_mem hlast) (up_rest hlast)] at tx8
                  have TX8 : Hid (Tx w8 T1 S1 n sPrep o l sd wv dm K (pg A P ((mems K P W wv n).take (k + 1))) W) := tx8
                  clear tx8
                  go_wp2_with (go_at_call 10; refine (sameHead T1 S1 n sPrep o l sd wv dm K _ W _ TX8.out).mono ?_; rintro e w9 ⟨rfl, m9, rfl⟩)
                  go_roundw
                  case rel => first | exact ⟨k + 1, by omega, by go_num, by rw [headUp_lt hlast]; exact TX8.out.drewN _, HK8.out.drewN _⟩ | ((repeat apply Exists.intro); exact ⟨⟨k + 1, by omega, by go_num, by rw [headUp_lt hlast]; exact TX8.out.drewN _, HK8.out.drewN _⟩, rfl⟩)
                  case measure => simp [intOf]; omega
                · have e2 : after o wv dm n K (pg A P ((mems K P W wv n).take (k + 1))) W = want := by rw [HWANT.out, List.take_of_length_le (by omega)]
                  rw [e2] at tx8
                  have TX8 : Hid (Tx w8 T1 S1 n want.1 want.2.1 l sd want.2.2 dm K (pg A P ((mems K P W wv n).take (k + 1))) W) := tx8
                  clear tx8 e2
                  go_wp2_with fail
                  go_roundw
                  case rel => first | exact ⟨k + 1, by omega, by go_num, by rw [headUp_ge hlast]; exact TX8.out, HK8.out⟩ | ((repeat apply Exists.intro); exact ⟨⟨k + 1, by omega, by go_num, by rw [headUp_ge hlast]; exact TX8.out, HK8.out⟩, rfl⟩)
                  case measure => simp [intOf]; omega
              · rw [headUp_ge hlt, List.take_of_length_le (by omega)] at htx
                have TX9 : Hid (Tx wr T1 S1 n want.1 want.2.1 l sd want.2.2 dm K (pg A P (mems K P W wv n)) W ∧ Tx wr T2 S2 n sPrep o l sd wv dm K P W) := ⟨htx, TX7.out.2.1.keeps HKP.out (by simp; omega) (by simp; omega)⟩
                have hz9 := HKP.out.size
                clear htx TX7 HKP
                obtain ⟨w9, rfl⟩ : ∃ x, x = wr := ⟨_, rfl⟩
                have HB9 : Hid (Below wE.heap.size wE w9) := HBW.out
                clear HBW
                go_wp2_with fail
                have E9 : Hid (pg A P ((mems K P W wv n).drop (mems K P W wv n).length) = P) := by show pg A P _ = P; funext j; simp [pg]
                go_loopw [33] (fun i wx => ∃ q : Nat, q ≤ (mems K P W wv n).length ∧ i = .int .i64 ((q : Int) - 1) ∧ Tx wx T2 S2 n (headDn o wv want q).1 (headDn o wv want q).2.1 l sd (headDn o wv want q).2.2 dm K (pg A P ((mems K P W wv n).drop q)) W ∧ Keeps [T2, S2] w9 wx) (fun i _ => (intOf i + 1).toNat)
                case atStart => exact ⟨(mems K P W wv n).length, Nat.le_refl _, rfl, by rw [headDn_pos hmp, E9.out]; exact TX9.out.2, Keeps.refl _ _⟩
                case round =>
                  clear E9
                  obtain ⟨q, hq, hi33, htx, hkp⟩ := hrel
                  have HKP : Hid (Keeps [T2, S2] w9 wr) := hkp
                  have HBW : Hid (Below wE.heap.size wE wr) := HB9.out.trans (hkp.below (by omega) (by simp; omega))
                  clear hkp
                  rcases Nat.eq_zero_or_pos q with hq0 | hqp
                  · subst hq0
                    simp only [Int.natCast_zero, Int.zero_sub] at hi33
                    subst hi33
                    rw [headDn_zero, List.drop_zero] at htx
                    have TXA : Hid (Tx wr T1 S1 n want.1 want.2.1 l sd want.2.2 dm K (pg A P (mems K P W wv n)) W ∧ Tx wr T2 S2 n want.1 want.2.1 l sd want.2.2 dm K (pg A P (mems K P W wv n)) W) := ⟨TX9.out.1.keeps HKP.out (by simp; omega) (by simp; omega), htx⟩
                    clear htx TX9 HKP
                    go_wp2_with fail
                    refine (checkTx T1 S1 n want.1 want.2.1 l sd want.2.2 dm K (pg A P (mems K P W wv n)) W ak1 (some ⟨w5.heap.size, 0, none⟩) aw3 n n n wr hn TXA.out.1 (RD.out.1.below HBW.out) (RM.out.2.below HBW.out) (RD.out.2.2.1.below HBW.out)).mono ?_
                    rintro e wA ⟨rfl, hbA⟩
                    have HBA : Hid (Below wE.heap.size wE wA ∧ Tx wA T2 S2 n want.1 want.2.1 l sd want.2.2 dm K (pg A P (mems K P W wv n)) W) := ⟨HBW.out.trans (hbA.mono HBW.out.size), TXA.out.2.below hbA⟩
                    clear hbA TXA
                    go_wp2_with fail
                    refine (checkTx T2 S2 n want.1 want.2.1 l sd want.2.2 dm K (pg A P (mems K P W wv n)) W ak1 (some ⟨w5.heap.size, 0, none⟩) aw3 n n n wA hn HBA.out.2 (RD.out.1.below HBA.out.1) (RM.out.2.below HBA.out.1) (RD.out.2.2.1.below HBA.out.1)).mono ?_
                    rintro e wB ⟨rfl, hbB⟩
                    go_wp2_with fail
                    go_ret
                    exact ⟨rfl, (RD.out.2.2.2.2.trans (HBA.out.1.mono hwz)).trans (hbB.mono (Nat.le_trans hwz HBA.out.1.size))⟩
                  · obtain ⟨k, rfl⟩ : ∃ k, q = k + 1 := ⟨q - 1, by omega⟩
                    have hi34 : ((k + 1 : Nat) : Int) - 1 = (k : Int) := by omega
                    rw [hi34] at hi33
                    subst hi33
                    clear hi34
                    have hlt : k < (mems K P W wv n).length := by omega
                    rw [headDn_pos hqp] at htx
                    have HTX : Hid (Tx wr T2 S2 n sPrep o l sd wv dm K (pg A P ((mems K P W wv n).drop (k + 1))) W) := htx
                    clear htx
                    obtain ⟨i, hi⟩ : ∃ i, i = (mems K P W wv n)[k] := ⟨_, rfl⟩
                    have HI : Hid (i = (mems K P W wv n)[k]) := hi
                    have hin : i < n := by
                      rw [hi]; exact (mems_iff.1 (List.getElem_mem hlt)).1
                    obtain ⟨b4, o4, rfl, r4⟩ := RD.out.2.2.2.1.at (by omega)
                    obtain ⟨bm, om, hbm, rm⟩ := RM.out.1.at (by omega)
                    obtain ⟨rfl, rfl⟩ : bm = w4.heap.size ∧ om = 0 := by
                      simp at hbm; omega
                    have l4 : b4 < wE.heap.size := World.block_lt_of_cell? wE _ (r4 i hin)
                    have d1 : wr.cell? ⟨w4.heap.size, k, none⟩ = some (.int .i64 (i : Int)) := by
                      have := cell_later HBW.out (rm k hlt)
                      simp only [Nat.zero_add] at this
                      rw [this, hi]; simp [hlt]
                    have d2 : wr.cell? ⟨b4, o4 + i, none⟩ = some (.int .u8 (A i)) := cell_later HBW.out (r4 i hin)
                    clear hi hbm rm r4
                    have i1 : (0 : Int) ≤ (k : Int) := by omega
                    have i2 : (k : Int) < ((mems K P W wv n).length : Int) := by omega
                    have i3 : (0 : Int) ≤ (i : Int) := by omega
                    have i4 : (i : Int) < (n : Int) := by omega
                    go_wp2_with fail
                    go_region_held3 (fun w' => w'.cell? ⟨w4.heap.size, k, none⟩ = some (.int .i64 (i : Int)) ∧ w'.cell? ⟨b4, o4 + i, none⟩ = some (.int .u8 (A i)))
                      (first | go_keep | exact ⟨kp8.cell d1 (by simp; omega), kp8.cell d2 (by simp; omega)⟩)
                      (first
                        | (go_at_call 9; refine (zzAnswered T2 S2 n i (A i) o l sd wv dm K (pg A P ((mems K P W wv n).drop (k + 1))) W _ hn hin HTX.out.drew).mono ?_; rintro e w8 ⟨rfl, tx8, kp8⟩))
                    have e1 : upd (pg A P ((mems K P W wv n).drop (k + 1))) i (A i) = pg A P ((mems K P W wv n).drop k) := by rw [HI.out]; exact down_step hlt
                    rw [e1] at tx8
                    have HK8 : Hid (Keeps [T2, S2] w9 w8) := HKP.out.drew.trans kp8
                    clear e1 kp8 d1 d2 HI HTX HKP HBW i3 i4
                    by_cases hlast : 0 < k
                    · have j1 : (0 : Int) < (k : Int) := by omega
                      rw [after_mid (List.getElem_mem (show k - 1 < (mems K P W wv n).length by omega)) (down_rest hlt hlast)] at tx8
                      have TX8 : Hid (Tx w8 T2 S2 n sPrep o l sd wv dm K (pg A P ((mems K P W wv n).drop k)) W) := tx8
                      clear tx8
                      go_wp2_with (go_at_call 10; refine (sameHead T2 S2 n sPrep o l sd wv dm K _ W _ TX8.out).mono ?_; rintro e wZ ⟨rfl, m9, rfl⟩)
                      go_roundw
                      case rel => first | exact ⟨k, by omega, by go_num, by rw [headDn_pos hlast]; exact TX8.out.drewN _, HK8.out.drewN _⟩ | ((repeat apply Exists.intro); exact ⟨⟨k, by omega, by go_num, by rw [headDn_pos hlast]; exact TX8.out.drewN _, HK8.out.drewN _⟩, rfl⟩)
                      case measure => simp [intOf]
                    · obtain rfl : 0 = k := by omega
                      have e2 : after o wv dm n K (pg A P ((mems K P W wv n).drop 0)) W = want := by rw [HWANT.out, List.drop_zero]
                      rw [e2] at tx8
                      have TX8 : Hid (Tx w8 T2 S2 n want.1 want.2.1 l sd want.2.2 dm K (pg A P ((mems K P W wv n).drop 0)) W) := tx8
                      clear tx8 e2
                      go_wp2_with fail
                      go_roundw
                      case rel => first | exact ⟨0, by omega, by go_num, by rw [headDn_zero]; exact TX8.out, HK8.out⟩ | ((repeat apply Exists.intro); exact ⟨⟨0, by omega, by go_num, by rw [headDn_zero]; exact TX8.out, HK8.out⟩, rfl⟩)
                      case measure => simp [intOf]
end Go.Proofs.Qxb6606013a
