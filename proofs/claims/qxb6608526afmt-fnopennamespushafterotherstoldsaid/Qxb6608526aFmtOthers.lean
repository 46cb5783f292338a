import Derived.Test.Qxb6608526aFmtTwo
namespace Go.Proofs.Qxb6608526aFmt
open Go.ChangeShapes Go.WideShapes Go.ChangeAt Go.RowKit
set_option linter.unusedVariables false
attribute [local go_sem ↓] Go.wp_at_zero Go.wp_at_succ

set_option maxRecDepth 100000 in
set_option maxHeartbeats 4000000 in
theorem others_main (a1 a2 : Option Addr) (n1 c1 n2 c2 : Nat) (x : Int) (F1 F2 : Nat → ByteArray) (w : World) (h1 : n1 ≤ maxLen) (h2 : n2 ≤ maxLen) (hF1 : Strs w a1 n1 F1) (hF2 : Strs w a2 n2 F2) (hs1 : ∀ j, j < n1 → (F1 j).size ≤ maxLen) (hs2 : ∀ j, j < n2 → (F2 j).size ≤ maxLen) :
    Calls Tryf.prog 4 #[.slice a1 n1 c1, .slice a2 n2 c2, .int .i64 x] w fun e w' => e = .returned (.bool true) ∧ Below w.heap.size w w' := by
  have HF : Hid (Strs w a1 n1 F1 ∧ Strs w a2 n2 F2) := ⟨hF1, hF2⟩
  have H5 : Hid (Calls Tryf.prog 16 #[.slice a1 n1 c1, .slice a2 n2 c2, .int .i64 x] w fun e w' => BytesOut n1 n2 F1 F2 e ∧ w = w') := bytes16 a1 a2 n1 c1 n2 c2 x F1 F2 w h1 h2 hF1 hF2 hs1 hs2
  clear hF1 hF2 hs1 hs2 h1 h2
  go_enter Tryf.func4, Tryf.ntmps4
  go_wp2_with fail
  refine H5.out.mono ?_
  rintro e w' ⟨⟨b, rfl, hbound⟩, rfl⟩
  clear H5
  cases b with
  | false =>
    go_wp2
    go_ret
    exact ⟨rfl, Below.refl _ _⟩
  | true =>
    have hB := hbound rfl
    clear hbound
    have HS : Hid ((∀ j, j < n1 → (F1 j).size ≤ 1048576) ∧ (∀ j, j < n2 → (F2 j).size ≤ 1048576) ∧ (∀ k, k ≤ n1 → k ≤ n2 → sp F1 F2 k ≤ 1048576)) :=
      ⟨fun j hj => by have := size_le F1 hj; omega, fun j hj => by have := size_le F2 hj; omega, fun k hk1 hk2 => by have := sp_le F1 F2 k; have := sumLen_mono F1 hk1; have := sumLen_mono F2 hk2; omega⟩
    have b1 : n1 ≤ 1048576 := by omega
    have b2 : n2 ≤ 1048576 := by omega
    clear hB
    go_wp2_with fail
    refine (room a1 a2 n1 c1 n2 c2 F1 F2 w b1 b2 HF.out.1 HF.out.2 HS.out.1 HS.out.2.1).mono ?_
    rintro e w' ⟨⟨r, rfl⟩, rfl⟩
    go_wp2_with fail
    all_goals try (go_ret; exact ⟨rfl, Below.refl _ _⟩)
    refine (zzMin n1 n2 w).mono ?_
    rintro e w' ⟨rfl, rfl⟩
    obtain ⟨n, hn⟩ : ∃ n, n = min n1 n2 := ⟨_, rfl⟩
    rw [← hn]
    have m1 : n ≤ n1 := by omega
    have m2 : n ≤ n2 := by omega
    have HN : Hid (n = min n1 n2) := hn
    clear hn
    by_cases hx0 : x < 0
    · go_wp2
      go_ret
      exact ⟨rfl, Below.refl _ _⟩
    by_cases hxn : (n : Int) < x
    · go_wp2
      go_ret
      exact ⟨rfl, Below.refl _ _⟩
    obtain ⟨c, rfl⟩ := Int.eq_ofNat_of_zero_le (show (0 : Int) ≤ x by omega)
    have hcn : c ≤ n := by omega
    go_wp2_with fail
    refine (newNames w.heap.size F1 F2 w (Nat.le_refl _)).mono ?_
    rintro e w1 ⟨rfl, hon1, hb1⟩
    have hlt1 := hon1.ltO
    have HON1 : Hid (ON w1 w.heap.size w.heap.size 0 F1 F2 (.slice none 0 0) (.slice none 0 0) ∧ Below w.heap.size w w1 ∧ w.heap.size < w1.heap.size) := ⟨hon1, hb1, hlt1⟩
    clear hon1 hb1 hlt1 hx0 hxn
    go_wp2_with fail
    refine (newNames w.heap.size (sh c F1) (sh c F2) w1 HON1.out.2.1.size).mono ?_
    rintro e w2 ⟨rfl, hon2, hb2⟩
    have HT0 : Hid (Two w w2 w.heap.size w.heap.size w1.heap.size 0 (c - c) F1 F2 (sh c F1) (sh c F2)) := by
      rw [Nat.sub_self]
      exact ⟨_, _, _, _, HON1.out.1.below hb2, hon2, by have := HON1.out.2.2; simp [foot, Value.ownBlock]; omega, HON1.out.2.1.trans (hb2.mono HON1.out.2.1.size)⟩
    obtain ⟨O2, hO2⟩ : ∃ x, x = w1.heap.size := ⟨_, rfl⟩
    rw [← hO2] at HT0 ⊢
    clear hon2 hb2 HON1 hO2
    go_wp2_with fail
    go_loopw [11, 12] (fun t i wx => ∃ k : Nat, k ≤ c ∧ i = .int .i64 k ∧ t = .int .i64 (sp F1 F2 k : Nat) ∧ Two w wx w.heap.size w.heap.size O2 k (c - c) F1 F2 (sh c F1) (sh c F2)) (fun _ i _ => c - (intOf i).toNat)
    case atStart => exact ⟨0, Nat.zero_le _, rfl, rfl, HT0.out⟩
    case round =>
      clear HT0
      obtain ⟨k, hk, rfl, rfl, hT⟩ := hrel
      have HT : Hid (Two w wr w.heap.size w.heap.size O2 k (c - c) F1 F2 (sh c F1) (sh c F2)) := hT
      clear hT
      have hspk := HS.out.2.2 k (by omega) (by omega)
      by_cases hlt : k < c
      · obtain ⟨b1', o1, rfl, r1⟩ := HF.out.1.at (by omega)
        obtain ⟨b2', o2, rfl, r2⟩ := HF.out.2.at (by omega)
        have HC : Hid (∀ wx, Below w.heap.size w wx → wx.cell? ⟨b1', o1 + k, none⟩ = some (.string (F1 k)) ∧ wx.cell? ⟨b2', o2 + k, none⟩ = some (.string (F2 k))) :=
          fun wx hb => ⟨cell_later hb (r1 k (by omega)), cell_later hb (r2 k (by omega))⟩
        obtain ⟨d1, d2⟩ := HC.out wr HT.out.bel
        have i1 : (0 : Int) ≤ (k : Int) := by omega
        have i2 : (k : Int) < (n1 : Int) := by omega
        have i3 : (k : Int) < (n2 : Int) := by omega
        have z1 := HS.out.1 k (by omega)
        have z2 := HS.out.2.1 k (by omega)
        clear r1 r2
        go_wp2_with fail
        go_region_held3 (fun w' => w'.cell? ⟨b1', o1 + k, none⟩ = some (.string (F1 k)) ∧ w'.cell? ⟨b2', o2 + k, none⟩ = some (.string (F2 k)))
          (first | go_keep | exact HC.out _ T8.bel)
          (first
            | (go_at_call 9; refine (push_a HT.out.drew (by omega) z1 z2 hspk).mono ?_; rintro e w8 ⟨rfl, T8⟩))
        have R8 : Hid (Two w w8 w.heap.size w.heap.size O2 (k + 1) (c - c) F1 F2 (sh c F1) (sh c F2)) := T8
        clear T8 d1 d2
        obtain ⟨d1, d2⟩ := HC.out w8 R8.out.bel
        go_wp2_with fail
        by_cases hw : 64 < wl (F1 k) (F2 k)
        · have hwi : (64 : Int) < ((wl (F1 k) (F2 k) : Nat) : Int) := by omega
          have hsk : sp F1 F2 (k + 1) = sp F1 F2 k + wl (F1 k) (F2 k) := by simp [sp, hw]
          have HSK : Hid (sp F1 F2 (k + 1) = sp F1 F2 k + wl (F1 k) (F2 k)) := hsk
          have hsk1 := HS.out.2.2 (k + 1) (by omega) (by omega)
          have hle : sp F1 F2 k + wl (F1 k) (F2 k) ≤ 1048576 := by omega
          clear hsk hsk1
          go_quiet (first | (go_at_call 17; refine Calls.quiet_of_same ((zzWL (F1 k) (F2 k) _ z1 z2).mono (fun e w' h => ⟨h.1, h.2.symm⟩))))
          go_wp2
          go_roundw
          case rel => first | exact ⟨k + 1, by omega, by go_num, by rw [HSK.out]; go_num, R8.out.drewN _⟩ | ((repeat apply Exists.intro); exact ⟨⟨k + 1, by omega, by go_num, by rw [HSK.out]; go_num, R8.out.drewN _⟩, rfl⟩)
          case measure => simp [intOf]; omega
        · have hwi : ¬ (64 : Int) < ((wl (F1 k) (F2 k) : Nat) : Int) := by omega
          have HSK : Hid (sp F1 F2 (k + 1) = sp F1 F2 k) := by show _ = _; simp [sp, hw]
          go_quiet (first | (go_at_call 17; refine Calls.quiet_of_same ((zzWL (F1 k) (F2 k) _ z1 z2).mono (fun e w' h => ⟨h.1, h.2.symm⟩))))
          go_wp2
          go_roundw
          case rel => first | exact ⟨k + 1, by omega, by go_num, by rw [HSK.out], R8.out.drewN _⟩ | ((repeat apply Exists.intro); exact ⟨⟨k + 1, by omega, by go_num, by rw [HSK.out], R8.out.drewN _⟩, rfl⟩)
          case measure => simp [intOf]; omega
      · obtain rfl : c = k := by omega
        obtain ⟨wC, rfl⟩ : ∃ x, x = wr := ⟨_, rfl⟩
        go_wp2_with fail
        refine (size_a HT.out (by omega)).mono ?_
        rintro e w' ⟨rfl, m3, rfl⟩
        have HT3 : Hid (Two w (wC.drewN m3) w.heap.size w.heap.size O2 c (c - c) F1 F2 (sh c F1) (sh c F2)) := HT.out.drewN _
        clear HT
        go_wp2_with fail
        go_loopw [15] (fun i wx => ∃ k : Nat, c ≤ k ∧ k ≤ n ∧ i = .int .i64 k ∧ Two w wx w.heap.size w.heap.size O2 k (k - c) F1 F2 (sh c F1) (sh c F2)) (fun i _ => n - (intOf i).toNat)
        case atStart => exact ⟨c, Nat.le_refl _, hcn, rfl, HT3.out⟩
        case round =>
          clear HT3
          obtain ⟨k, hck, hkn, rfl, hT⟩ := hrel
          have HT : Hid (Two w wr w.heap.size w.heap.size O2 k (k - c) F1 F2 (sh c F1) (sh c F2)) := hT
          clear hT
          have hspk := HS.out.2.2 k (by omega) (by omega)
          by_cases hlt : k < n
          · obtain ⟨b1', o1, rfl, r1⟩ := HF.out.1.at (by omega)
            obtain ⟨b2', o2, rfl, r2⟩ := HF.out.2.at (by omega)
            have HC : Hid (∀ wx, Below w.heap.size w wx → wx.cell? ⟨b1', o1 + k, none⟩ = some (.string (F1 k)) ∧ wx.cell? ⟨b2', o2 + k, none⟩ = some (.string (F2 k))) :=
              fun wx hb => ⟨cell_later hb (r1 k (by omega)), cell_later hb (r2 k (by omega))⟩
            obtain ⟨d1, d2⟩ := HC.out wr HT.out.bel
            have i1 : (0 : Int) ≤ (k : Int) := by omega
            have i2 : (k : Int) < (n1 : Int) := by omega
            have i3 : (k : Int) < (n2 : Int) := by omega
            have z1 := HS.out.1 k (by omega)
            have z2 := HS.out.2.1 k (by omega)
            clear r1 r2
            go_wp2_with fail
            go_region_held3 (fun w' => w'.cell? ⟨b1', o1 + k, none⟩ = some (.string (F1 k)) ∧ w'.cell? ⟨b2', o2 + k, none⟩ = some (.string (F2 k)))
              (first | go_keep | exact HC.out _ T8.bel)
              (first
                | (go_at_call 9; refine (push_a HT.out.drew (by omega) z1 z2 hspk).mono ?_; rintro e w8 ⟨rfl, T8⟩))
            have R8 : Hid (Two w w8 w.heap.size w.heap.size O2 (k + 1) (k - c) F1 F2 (sh c F1) (sh c F2)) := T8
            clear T8 d1 d2
            obtain ⟨d1, d2⟩ := HC.out w8 R8.out.bel
            go_wp2_with fail
            go_region_held3 (fun w' => w'.cell? ⟨b1', o1 + k, none⟩ = some (.string (F1 k)) ∧ w'.cell? ⟨b2', o2 + k, none⟩ = some (.string (F2 k)))
              (first | go_keep | exact HC.out _ T9.bel)
              (first
                | (go_at_call 9; refine (push_part R8.out.drew hck (by omega) z1 z2 hspk).mono ?_; rintro e w9 ⟨rfl, T9⟩))
            have R9 : Hid (Two w w9 w.heap.size w.heap.size O2 (k + 1) (k + 1 - c) F1 F2 (sh c F1) (sh c F2)) := T9
            clear T9 d1 d2
            go_wp2
            go_roundw
            case rel => exact ⟨k + 1, by omega, by omega, by go_num, R9.out⟩
            case measure => simp [intOf]; omega
          · obtain rfl : n = k := by omega
            obtain ⟨wD, rfl⟩ : ∃ x, x = wr := ⟨_, rfl⟩
            go_wp2_with fail
            refine (count_a HT.out).mono ?_
            rintro e w' ⟨rfl, rfl⟩
            go_wp2_with fail
            refine (count_b HT.out hcn).mono ?_
            rintro e w' ⟨rfl, rfl⟩
            go_wp2_with fail
            go_loopw [16] (fun i wx => ∃ k : Nat, c ≤ k ∧ k ≤ n ∧ i = .int .i64 k ∧ Two w wx w.heap.size w.heap.size O2 n (n - c) F1 F2 (sh c F1) (sh c F2)) (fun i _ => n - (intOf i).toNat)
            case atStart => exact ⟨c, Nat.le_refl _, hcn, rfl, HT.out⟩
            case round =>
              clear HT
              obtain ⟨k, hck, hkn, rfl, hT⟩ := hrel
              have HT : Hid (Two w wr w.heap.size w.heap.size O2 n (n - c) F1 F2 (sh c F1) (sh c F2)) := hT
              clear hT
              have hspn := HS.out.2.2 n (by omega) (by omega)
              have hspk := HS.out.2.2 k (by omega) (by omega)
              by_cases hlt : k < n
              · obtain ⟨b1', o1, rfl, r1⟩ := HF.out.1.at (by omega)
                obtain ⟨b2', o2, rfl, r2⟩ := HF.out.2.at (by omega)
                have HC : Hid (∀ wx, Below w.heap.size w wx → wx.cell? ⟨b1', o1 + k, none⟩ = some (.string (F1 k)) ∧ wx.cell? ⟨b2', o2 + k, none⟩ = some (.string (F2 k))) :=
                  fun wx hb => ⟨cell_later hb (r1 k (by omega)), cell_later hb (r2 k (by omega))⟩
                have i1 : (0 : Int) ≤ (k : Int) := by omega
                have i2 : (k : Int) < (n1 : Int) := by omega
                have i3 : (k : Int) < (n2 : Int) := by omega
                have z1 := HS.out.1 k (by omega)
                have z2 := HS.out.2.1 k (by omega)
                clear r1 r2
                go_wp2_with fail
                refine (entry_a HT.out (by omega) hlt).mono ?_
                rintro e w3 ⟨rfl, T3⟩
                have HT3 : Hid (Two w w3 w.heap.size w.heap.size O2 n (n - c) F1 F2 (sh c F1) (sh c F2)) := T3
                clear T3 HT
                go_wp2_with fail
                refine (entry_b HT3.out (by omega) hck hlt).mono ?_
                rintro e w4 ⟨rfl, T4⟩
                have HT4 : Hid (Two w w4 w.heap.size w.heap.size O2 n (n - c) F1 F2 (sh c F1) (sh c F2)) := T4
                clear T4 HT3
                obtain ⟨d1, d2⟩ := HC.out w4 HT4.out.bel
                by_cases hw : 64 < wl (F1 k) (F2 k)
                · obtain ⟨q, hq⟩ : ∃ q, q = sp (sh c F1) (sh c F2) (k - c) := ⟨_, rfl⟩
                  have hk := sp_rest F1 F2 hck
                  rw [← hq] at hk
                  rw [show eSpace F1 F2 k = ⟨#[]⟩ from by simp [eSpace, hw], show eLocal F1 F2 k = ⟨#[]⟩ from by simp [eLocal, hw], show eLong F1 F2 k = true from by simp [eLong, hw], show eAt F1 F2 k = (sp F1 F2 c : Int) + (q : Int) from by simp [eAt, hw]; omega, show pAt F1 F2 c k = (q : Int) from by simp [pAt, hw, hq]]
                  have hwi : (64 : Int) < ((wl (F1 k) (F2 k) : Nat) : Int) := by omega
                  have hcq : sp F1 F2 c + q ≤ 1048576 := by omega
                  clear hk hq hspk
                  go_wp2_with fail
                  go_quiet (first | (go_at_call 17; refine Calls.quiet_of_same ((zzWL (F1 k) (F2 k) _ z1 z2).mono (fun e w' h => ⟨h.1, h.2.symm⟩))))
                  go_wp2
                  go_roundw
                  case rel => first | exact ⟨k + 1, by omega, by omega, by go_num, HT4.out.drewN _⟩ | ((repeat apply Exists.intro); exact ⟨⟨k + 1, by omega, by omega, by go_num, HT4.out.drewN _⟩, rfl⟩)
                  case measure => simp [intOf]; omega
                · rw [show eLong F1 F2 k = false from by simp [eLong, hw], show eAt F1 F2 k = 0 from by simp [eAt, hw], show pAt F1 F2 c k = 0 from by simp [pAt, hw]]
                  generalize eSpace F1 F2 k = es
                  generalize eLocal F1 F2 k = el
                  have hwi : ¬ (64 : Int) < ((wl (F1 k) (F2 k) : Nat) : Int) := by omega
                  go_wp2_with fail
                  go_quiet (first | (go_at_call 17; refine Calls.quiet_of_same ((zzWL (F1 k) (F2 k) _ z1 z2).mono (fun e w' h => ⟨h.1, h.2.symm⟩))))
                  go_wp2
                  go_roundw
                  case rel => first | exact ⟨k + 1, by omega, by omega, by go_num, HT4.out.drewN _⟩ | ((repeat apply Exists.intro); exact ⟨⟨k + 1, by omega, by omega, by go_num, HT4.out.drewN _⟩, rfl⟩)
                  case measure => simp [intOf]; omega
              · obtain rfl : n = k := by omega
                obtain ⟨r, hr⟩ : ∃ r, r = sp (sh c F1) (sh c F2) (n - c) := ⟨_, rfl⟩
                have hn := sp_rest F1 F2 hcn
                rw [← hr] at hn
                have HR : Hid (r = sp (sh c F1) (sh c F2) (n - c) ∧ sp F1 F2 n = sp F1 F2 c + r) := ⟨hr, hn⟩
                have hcr : sp F1 F2 c + r ≤ 1048576 := by omega
                clear hn hr hspn
                go_wp2_with fail
                refine (size_a HT.out (by have := HR.out.2; omega)).mono ?_
                rintro e w' ⟨rfl, m7, rfl⟩
                rw [show ((sp F1 F2 n : Nat) : Int) = (sp F1 F2 c : Int) + (r : Int) from by have := HR.out.2; omega]
                go_wp2_with fail
                refine (size_b (HT.out.drewN _) (by have := HR.out.1; omega)).mono ?_
                rintro e w' ⟨rfl, m8, rfl⟩
                rw [← HR.out.1]
                have HT8 : Hid (Two w ((wr.drewN m7).drewN m8) w.heap.size w.heap.size O2 n (n - c) F1 F2 (sh c F1) (sh c F2)) := (HT.out.drewN _).drewN _
                clear HT
                obtain ⟨wZ, hZ⟩ : ∃ x, x = (wr.drewN m7).drewN m8 := ⟨_, rfl⟩
                rw [← hZ] at HT8 ⊢
                clear hZ
                go_wp2_with fail
                refine (long_a HT8.out (by have := HR.out.2; omega) (by have := HR.out.2; omega)).mono ?_
                rintro e w5 ⟨⟨aG, cG, rfl, hrG⟩, m5, rfl⟩
                have RG : Hid (Reads wZ aG r (fun j => (tb (sh c F1) (sh c F2) (n - c)).getD j 0)) := hrG.congr (fun j hj => tb_rest F1 F2 hcn j)
                clear hrG
                go_wp2_with fail
                refine (long_b (HT8.out.drewN _) (m := r) (by have := HR.out.1; omega) (by have := HR.out.1; omega)).mono ?_
                rintro e w5 ⟨⟨aH, cH, rfl, hrH⟩, m6, rfl⟩
                have RH : Hid (Reads wZ aH r (fun j => (tb (sh c F1) (sh c F2) (n - c)).getD j 0)) := hrH
                clear hrH
                go_wp2_with fail
                refine (same_true aG aH r cG cH _ _ (by omega) (by exact RG.out) (by exact RH.out)).mono ?_
                rintro e w6 ⟨rfl, m9, rfl⟩
                go_wp2
                go_ret
                exact ⟨by simp, below_drewN HT8.out.bel _⟩
end Go.Proofs.Qxb6608526aFmt
