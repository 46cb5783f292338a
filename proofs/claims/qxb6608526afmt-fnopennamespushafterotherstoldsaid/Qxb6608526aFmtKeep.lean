import Derived.Test.Qxb6608526aFmtLong
namespace Go.Proofs.Qxb6608526aFmt
open Go.ChangeShapes Go.WideShapes Go.ChangeAt Go.RowKit
set_option linter.unusedVariables false
attribute [local go_sem ↓] Go.wp_at_zero Go.wp_at_succ

theorem Done.below {w w' : World} {base O k : Nat} {S L : Nat → ByteArray} {vO vT vO' vT' : Value} (h : Done w w' base O k S L vO vT vO' vT') (hon : ON w base O k S L vO vT) : Below base w w' :=
  h.keep.below (by have := hon.ltO; have := hon.hb; omega) (fun x hx => (hon.lt x hx).2)

set_option maxRecDepth 100000 in
set_option maxHeartbeats 4000000 in
theorem keep_main (a1 a2 : Option Addr) (n1 c1 n2 c2 : Nat) (F1 F2 : Nat → ByteArray) (w : World) (h1 : n1 ≤ maxLen) (h2 : n2 ≤ maxLen) (hF1 : Strs w a1 n1 F1) (hF2 : Strs w a2 n2 F2) (hs1 : ∀ j, j < n1 → (F1 j).size ≤ maxLen) (hs2 : ∀ j, j < n2 → (F2 j).size ≤ maxLen) :
    Calls Tryf.prog 3 #[.slice a1 n1 c1, .slice a2 n2 c2] w fun e w' => e = .returned (.bool true) ∧ Below w.heap.size w w' := by
  have HF : Hid (Strs w a1 n1 F1 ∧ Strs w a2 n2 F2) := ⟨hF1, hF2⟩
  have H5 : Hid (Calls Tryf.prog 5 #[.slice a1 n1 c1, .slice a2 n2 c2] w fun e w' => BytesOut n1 n2 F1 F2 e ∧ w = w') := bytes5 a1 a2 n1 c1 n2 c2 F1 F2 w h1 h2 hF1 hF2 hs1 hs2
  clear hF1 hF2 hs1 hs2 h1 h2
  go_enter Tryf.func3, Tryf.ntmps3
  go_wp2_with fail
  refine H5.out.mono ?_
  rintro e w' ⟨⟨b, rfl, hbound⟩, rfl⟩
  clear H5
  cases b with
  | false =>
    go_wp2
    go_ret
    exact ⟨rfl, Below.refl _ _⟩
  | true =>
    have hB := hbound rfl
    clear hbound
    have HS : Hid ((∀ j, j < n1 → (F1 j).size ≤ 1048576) ∧ (∀ j, j < n2 → (F2 j).size ≤ 1048576) ∧ (∀ k, k ≤ n1 → k ≤ n2 → sp F1 F2 k ≤ 1048576)) :=
      ⟨fun j hj => by have := size_le F1 hj; omega, fun j hj => by have := size_le F2 hj; omega, fun k hk1 hk2 => by have := sp_le F1 F2 k; have := sumLen_mono F1 hk1; have := sumLen_mono F2 hk2; omega⟩
    have b1 : n1 ≤ 1048576 := by omega
    have b2 : n2 ≤ 1048576 := by omega
    clear hB
    go_wp2_with fail
    refine (room a1 a2 n1 c1 n2 c2 F1 F2 w b1 b2 HF.out.1 HF.out.2 HS.out.1 HS.out.2.1).mono ?_
    rintro e w' ⟨⟨r, rfl⟩, rfl⟩
    go_wp2_with fail
    all_goals try (go_ret; exact ⟨rfl, Below.refl _ _⟩)
    refine (zzMin n1 n2 w).mono ?_
    rintro e w' ⟨rfl, rfl⟩
    obtain ⟨n, hn⟩ : ∃ n, n = min n1 n2 := ⟨_, rfl⟩
    rw [← hn]
    have m1 : n ≤ n1 := by omega
    have m2 : n ≤ n2 := by omega
    have HN : Hid (n = min n1 n2) := hn
    clear hn
    go_wp2_with fail
    refine (newNames w.heap.size F1 F2 w (Nat.le_refl _)).mono ?_
    rintro e w1 ⟨rfl, hon0, hb1⟩
    have HON0 : Hid (ON w1 w.heap.size w.heap.size 0 F1 F2 (.slice none 0 0) (.slice none 0 0) ∧ Below w.heap.size w w1) := ⟨hon0, hb1⟩
    clear hon0 hb1
    go_wp2_with fail
    go_loopw [8] (fun i wx => ∃ k : Nat, k ≤ n ∧ i = .int .i64 k ∧ (∃ vO vT, ON wx w.heap.size w.heap.size k F1 F2 vO vT) ∧ Below w.heap.size w wx) (fun i _ => n - (intOf i).toNat)
    case atStart => exact ⟨0, Nat.zero_le _, rfl, ⟨_, _, HON0.out.1⟩, HON0.out.2⟩
    case round =>
      clear HON0
      obtain ⟨k, hk, rfl, ⟨vO, vT, hon⟩, hbel⟩ := hrel
      have HON : Hid (ON wr w.heap.size w.heap.size k F1 F2 vO vT) := hon
      have HBL : Hid (Below w.heap.size w wr) := hbel
      clear hon hbel
      by_cases hlt : k < n
      · obtain ⟨b1', o1, rfl, r1⟩ := HF.out.1.at (by omega)
        obtain ⟨b2', o2, rfl, r2⟩ := HF.out.2.at (by omega)
        have HC : Hid (∀ wx, Below w.heap.size w wx → wx.cell? ⟨b1', o1 + k, none⟩ = some (.string (F1 k)) ∧ wx.cell? ⟨b2', o2 + k, none⟩ = some (.string (F2 k))) :=
          fun wx hb => ⟨cell_later hb (r1 k (by omega)), cell_later hb (r2 k (by omega))⟩
        obtain ⟨d1, d2⟩ := HC.out wr HBL.out
        have i1 : (0 : Int) ≤ (k : Int) := by omega
        have i2 : (k : Int) < (n1 : Int) := by omega
        have i3 : (k : Int) < (n2 : Int) := by omega
        clear r1 r2
        go_wp2_with fail
        go_region_held3 (fun w' => w'.cell? ⟨b1', o1 + k, none⟩ = some (.string (F1 k)) ∧ w'.cell? ⟨b2', o2 + k, none⟩ = some (.string (F2 k)))
          (first | go_keep | exact HC.out _ (HBL.out.drew.trans (D.below HON.out.drew)))
          (first
            | (go_at_call 9; refine (push w.heap.size w.heap.size k F1 F2 vO vT _ (by omega) (HS.out.1 k (by omega)) (HS.out.2.1 k (by omega)) (HS.out.2.2 k (by omega) (by omega)) HON.out.drew).mono ?_; rintro e w8 ⟨rfl, vO8, vT8, D⟩))
        have R8 : Hid (ON w8 w.heap.size w.heap.size (k + 1) F1 F2 vO8 vT8 ∧ Below w.heap.size w w8) := ⟨D.on, HBL.out.drew.trans (D.below HON.out.drew)⟩
        clear D
        go_wp2
        go_roundw
        case rel => exact ⟨k + 1, by omega, by go_num, ⟨_, _, R8.out.1⟩, R8.out.2⟩
        case measure => simp [intOf]; omega
      · obtain rfl : n = k := by omega
        obtain ⟨wC, rfl⟩ : ∃ x, x = wr := ⟨_, rfl⟩
        go_wp2_with fail
        refine (openCount w.heap.size w.heap.size n F1 F2 vO vT wC HON.out).mono ?_
        rintro e w' ⟨rfl, rfl⟩
        go_wp2_with fail
        go_loopw [9, 10] (fun t i wx => ∃ k : Nat, k ≤ n ∧ i = .int .i64 k ∧ t = .int .i64 (sp F1 F2 k : Nat) ∧ Below wC.heap.size wC wx) (fun _ i _ => n - (intOf i).toNat)
        case atStart => exact ⟨0, Nat.zero_le _, rfl, rfl, Below.refl _ _⟩
        case round =>
          obtain ⟨k, hk, rfl, rfl, hbx⟩ := hrel
          have HBX : Hid (Below wC.heap.size wC wr) := hbx
          clear hbx
          have hspn := HS.out.2.2 n (by omega) (by omega)
          have hspk := sp_mono F1 F2 hk
          by_cases hlt : k < n
          · obtain ⟨b1', o1, rfl, r1⟩ := HF.out.1.at (by omega)
            obtain ⟨b2', o2, rfl, r2⟩ := HF.out.2.at (by omega)
            have HC : Hid (∀ wx, Below wC.heap.size wC wx → wx.cell? ⟨b1', o1 + k, none⟩ = some (.string (F1 k)) ∧ wx.cell? ⟨b2', o2 + k, none⟩ = some (.string (F2 k))) :=
              fun wx hb => ⟨cell_later (HBL.out.trans (hb.mono HBL.out.size)) (r1 k (by omega)), cell_later (HBL.out.trans (hb.mono HBL.out.size)) (r2 k (by omega))⟩
            have i1 : (0 : Int) ≤ (k : Int) := by omega
            have i2 : (k : Int) < (n1 : Int) := by omega
            have i3 : (k : Int) < (n2 : Int) := by omega
            have z1 := HS.out.1 k (by omega)
            have z2 := HS.out.2.1 k (by omega)
            clear r1 r2
            go_wp2_with fail
            refine (openEntry w.heap.size w.heap.size n k F1 F2 vO vT wr (by omega) hlt (HON.out.below HBX.out)).mono ?_
            rintro e w3 ⟨rfl, hb3⟩
            have HB3 : Hid (Below wC.heap.size wC w3) := HBX.out.trans (hb3.mono HBX.out.size)
            clear hb3 HBX
            obtain ⟨d1, d2⟩ := HC.out w3 HB3.out
            by_cases hw : 64 < wl (F1 k) (F2 k)
            · rw [show eSpace F1 F2 k = ⟨#[]⟩ from by simp [eSpace, hw], show eLocal F1 F2 k = ⟨#[]⟩ from by simp [eLocal, hw], show eLong F1 F2 k = true from by simp [eLong, hw], show eAt F1 F2 k = (sp F1 F2 k : Nat) from by simp [eAt, hw]]
              have hwi : (64 : Int) < ((wl (F1 k) (F2 k) : Nat) : Int) := by omega
              have hsk : sp F1 F2 (k + 1) = sp F1 F2 k + wl (F1 k) (F2 k) := by simp [sp, hw]
              have hsk1 := sp_mono F1 F2 (show k + 1 ≤ n by omega)
              have HSK : Hid (sp F1 F2 (k + 1) = sp F1 F2 k + wl (F1 k) (F2 k)) := hsk
              have hle : sp F1 F2 k + wl (F1 k) (F2 k) ≤ 1048576 := by omega
              have HLE : Hid (sp F1 F2 k + wl (F1 k) (F2 k) ≤ sp F1 F2 n) := by show _ ≤ _; omega
              clear hsk hsk1
              go_wp2_with fail
              go_region_held3 (fun w' => w'.cell? ⟨b1', o1 + k, none⟩ = some (.string (F1 k)) ∧ w'.cell? ⟨b2', o2 + k, none⟩ = some (.string (F2 k)))
                (first | go_keep | exact HC.out _ (HB3.out.drew.trans (W4.bel.mono (by exact HB3.out.size))))
                (first
                  | (go_at_call 12; refine (written (F1 k) (F2 k) _ z1 z2).mono ?_; rintro e w4 ⟨rfl, W4⟩))
              have HB4 : Hid (Below wC.heap.size wC w4) := HB3.out.drew.trans (W4.bel.mono (by exact HB3.out.size))
              have RW : Hid (Reads w4 (some ⟨w3.heap.size, 0, none⟩) (wl (F1 k) (F2 k)) (fun j => (wby (F1 k) (F2 k)).getD j 0)) :=
                Or.inr ⟨w3.heap.size, 0, rfl, fun j hj => by rw [Nat.zero_add]; exact (W4.own.cellAt j (by omega)).trans (cells_at (by rw [wby_length]; exact hj))⟩
              clear W4 HB3 d1 d2
              go_wp2_with fail
              refine (longBytes_len w.heap.size w.heap.size n (sp F1 F2 k) (wl (F1 k) (F2 k)) F1 F2 vO vT w4 (by omega) HLE.out (HON.out.below HB4.out)).mono ?_
              rintro e w5 ⟨⟨aG, cG, rfl, hrG⟩, m5, rfl⟩
              have RG : Hid (Reads w4 aG (wl (F1 k) (F2 k)) (fun j => (wby (F1 k) (F2 k)).getD j 0)) := hrG.congr (fun j hj => tb_at F1 F2 hlt hw j hj)
              clear hrG
              go_wp2_with fail
              refine (same_true aG (some ⟨w3.heap.size, 0, none⟩) (wl (F1 k) (F2 k)) cG (wl (F1 k) (F2 k)) _ _ (by omega) (by exact RG.out) (by exact RW.out)).mono ?_
              rintro e w6 ⟨rfl, m6, rfl⟩
              go_wp2
              go_roundw
              case rel => first | exact ⟨k + 1, by omega, by go_num, by rw [HSK.out]; go_num, below_drewN HB4.out _⟩ | ((repeat apply Exists.intro); exact ⟨⟨k + 1, by omega, by go_num, by rw [HSK.out]; go_num, below_drewN HB4.out _⟩, rfl⟩)
              case measure => simp [intOf]; omega
            · rw [show eSpace F1 F2 k = F1 k from by simp [eSpace, hw], show eLocal F1 F2 k = F2 k from by simp [eLocal, hw], show eLong F1 F2 k = false from by simp [eLong, hw], show eAt F1 F2 k = 0 from by simp [eAt, hw]]
              have hwi : ¬ (64 : Int) < ((wl (F1 k) (F2 k) : Nat) : Int) := by omega
              have HSK : Hid (sp F1 F2 (k + 1) = sp F1 F2 k) := by show _ = _; simp [sp, hw]
              go_wp2_with fail
              go_region_held3 (fun w' => w'.cell? ⟨b1', o1 + k, none⟩ = some (.string (F1 k)) ∧ w'.cell? ⟨b2', o2 + k, none⟩ = some (.string (F2 k)))
                (first | go_keep | exact HC.out _ (HB3.out.drew.trans (W4.bel.mono (by exact HB3.out.size))))
                (first
                  | (go_at_call 12; refine (written (F1 k) (F2 k) _ z1 z2).mono ?_; rintro e w4 ⟨rfl, W4⟩))
              have HB4 : Hid (Below wC.heap.size wC w4) := HB3.out.drew.trans (W4.bel.mono (by exact HB3.out.size))
              clear W4 HB3 d1 d2
              obtain ⟨d1, d2⟩ := HC.out w4 HB4.out
              go_wp2
              go_roundw
              case rel => first | exact ⟨k + 1, by omega, by go_num, by rw [HSK.out], HB4.out⟩ | ((repeat apply Exists.intro); exact ⟨⟨k + 1, by omega, by go_num, by rw [HSK.out], HB4.out⟩, rfl⟩)
              case measure => simp [intOf]; omega
          · obtain rfl : n = k := by omega
            go_wp2_with fail
            refine (longSize w.heap.size w.heap.size n F1 F2 vO vT wr (by omega) (HON.out.below HBX.out)).mono ?_
            rintro e w7 ⟨rfl, m7, rfl⟩
            go_wp2
            go_ret
            exact ⟨by simp, below_drewN (HBL.out.trans (HBX.out.mono HBL.out.size)) _⟩
end Go.Proofs.Qxb6608526aFmt
