import Derived.Test.Qxb6606013aHelp
namespace Go.Proofs.Qxb6606013a
open Go.ChangeShapes Go.WideShapes Go.ChangeAt Go.RowKit
set_option linter.unusedVariables false

theorem cnt_no {c k : Nat} {p : Nat → Bool} (h : decide (0 < c) = anyUp k p) (hp : p k = false) : decide (0 < c) = anyUp (k + 1) p := by
  rw [anyUp_succ, ← h, hp, Bool.or_false]
theorem cnt_yes {c k : Nat} {p : Nat → Bool} (hp : p k = true) : decide (0 < c + 1) = anyUp (k + 1) p := by
  rw [anyUp_succ, hp, Bool.or_true]; simp

/-- What the loop of zzAfterAnswer has counted behind k rounds. -/
def Cnt (K P W : Nat → Int) (wv : Int) (k c1 c2 c3 c4 : Nat) : Prop :=
  c1 ≤ k ∧ c2 ≤ k ∧ c3 ≤ k ∧ c4 ≤ k ∧ decide (0 < c1) = anyUp k (bWave K P W wv) ∧ decide (0 < c2) = anyUp k (bPZ K P) ∧ decide (0 < c3) = anyUp k (bEnl P) ∧ decide (0 < c4) = anyUp k (bUnf P)

section
variable {K P W : Nat → Int} {wv : Int} {k c1 c2 c3 c4 : Nat}
theorem Cnt.fin (h : Cnt K P W wv k c1 c2 c3 c4) (hp : P k = 3) : Cnt K P W wv (k + 1) c1 c2 c3 c4 := by
  obtain ⟨a1, a2, a3, a4, b1, b2, b3, b4⟩ := h
  exact ⟨by omega, by omega, by omega, by omega, cnt_no b1 (by simp [bWave, hp]), cnt_no b2 (by simp [bPZ, hp]), cnt_no b3 (by simp [bEnl, hp]), cnt_no b4 (by simp [bUnf, hp])⟩
theorem Cnt.mid (h : Cnt K P W wv k c1 c2 c3 c4) (hp : P k ≠ 3) (h0 : P k ≠ 0) : Cnt K P W wv (k + 1) c1 c2 c3 (c4 + 1) := by
  obtain ⟨a1, a2, a3, a4, b1, b2, b3, b4⟩ := h
  exact ⟨by omega, by omega, by omega, by omega, cnt_no b1 (by simp [bWave, h0]), cnt_no b2 (by simp [bPZ, h0]), cnt_no b3 (by simp [bEnl, h0]), cnt_yes (by simp [bUnf, hp])⟩
theorem Cnt.enl (h : Cnt K P W wv k c1 c2 c3 c4) (h0 : P k = 0) (hk : K k ≠ 3) : Cnt K P W wv (k + 1) c1 c2 (c3 + 1) (c4 + 1) := by
  obtain ⟨a1, a2, a3, a4, b1, b2, b3, b4⟩ := h
  exact ⟨by omega, by omega, by omega, by omega, cnt_no b1 (by simp [bWave, hk]), cnt_no b2 (by simp [bPZ, hk]), cnt_yes (by simp [bEnl, h0]), cnt_yes (by simp [bUnf, h0])⟩
theorem Cnt.pz (h : Cnt K P W wv k c1 c2 c3 c4) (h0 : P k = 0) (hk : K k = 3) (hw : W k ≠ wv) : Cnt K P W wv (k + 1) c1 (c2 + 1) (c3 + 1) (c4 + 1) := by
  obtain ⟨a1, a2, a3, a4, b1, b2, b3, b4⟩ := h
  exact ⟨by omega, by omega, by omega, by omega, cnt_no b1 (by simp [bWave, hw]), cnt_yes (by simp [bPZ, hk, h0]), cnt_yes (by simp [bEnl, h0]), cnt_yes (by simp [bUnf, h0])⟩
theorem Cnt.wav (h : Cnt K P W wv k c1 c2 c3 c4) (h0 : P k = 0) (hk : K k = 3) (hw : W k = wv) : Cnt K P W wv (k + 1) (c1 + 1) (c2 + 1) (c3 + 1) (c4 + 1) := by
  obtain ⟨a1, a2, a3, a4, b1, b2, b3, b4⟩ := h
  exact ⟨by omega, by omega, by omega, by omega, cnt_yes (by simp [bWave, hk, h0, hw]), cnt_yes (by simp [bPZ, hk, h0]), cnt_yes (by simp [bEnl, h0]), cnt_yes (by simp [bUnf, h0])⟩
end

theorem tuple_eq {a b : ByteArray × ByteArray × Int} (h : a = b) : Ending.returned (.tuple #[.string a.1, .string a.2.1, .int .i64 a.2.2]) = .returned (.tuple #[.string b.1, .string b.2.1, .int .i64 b.2.2]) := by rw [h]

set_option maxHeartbeats 1600000 in
theorem afterAnswer (o : ByteArray) (wv : Int) (dm : Bool) (K P W : Nat → Int) (ak ap aw : Option Addr) (n ck cp cw : Nat) (w : World) (hn : n ≤ 4096)
    (hK : Reads .u8 w ak n K) (hP : Reads .u8 w ap n P) (hW : Reads .i64 w aw n W) :
    Calls Try.prog 7 #[.string sPrep, .string o, .int .i64 wv, .bool dm, .slice ak n ck, .slice ap n cp, .slice aw n cw] w fun e w' =>
      e = .returned (.tuple #[.string (after o wv dm n K P W).1, .string (after o wv dm n K P W).2.1, .int .i64 (after o wv dm n K P W).2.2]) ∧ w = w' := by
  have HR : Hid (Reads .u8 w ak n K ∧ Reads .u8 w ap n P ∧ Reads .i64 w aw n W) := ⟨hK, hP, hW⟩
  clear hK hP hW
  unfold sPrep
  go_enter Try.func7, Try.ntmps7
  go_wp2
  go_loop [17, 18, 19, 20, 21] (fun x1 x2 x3 x4 i => ∃ k c1 c2 c3 c4 : Nat, k ≤ n ∧ x1 = .int .i64 c1 ∧ x2 = .int .i64 c2 ∧ x3 = .int .i64 c3 ∧ x4 = .int .i64 c4 ∧ i = .int .i64 k ∧ Cnt K P W wv k c1 c2 c3 c4) (fun _ _ _ _ i => n - (intOf i).toNat)
  case atStart => exact ⟨0, 0, 0, 0, 0, Nat.zero_le _, rfl, rfl, rfl, rfl, rfl, by simp [Cnt, anyUp_zero]⟩
  case round =>
    obtain ⟨k, c1, c2, c3, c4, hk, rfl, rfl, rfl, rfl, rfl, hc⟩ := hrel
    have HC : Hid (Cnt K P W wv k c1 c2 c3 c4) := hc
    obtain ⟨l1, l2, l3, l4, q1, q2, q3, q4⟩ := hc
    have HQ : Hid (decide (0 < c1) = anyUp k (bWave K P W wv) ∧ decide (0 < c2) = anyUp k (bPZ K P) ∧ decide (0 < c3) = anyUp k (bEnl P) ∧ decide (0 < c4) = anyUp k (bUnf P)) := ⟨q1, q2, q3, q4⟩
    clear q1 q2 q3 q4
    by_cases hlt : k < n
    · clear HQ
      obtain ⟨b1, o1, rfl, r1⟩ := HR.out.1.at (by omega)
      obtain ⟨b2, o2, rfl, r2⟩ := HR.out.2.1.at (by omega)
      obtain ⟨b3, o3, rfl, r3⟩ := HR.out.2.2.at (by omega)
      have R1 := r1 k hlt
      have R2 := r2 k hlt
      have R3 := r3 k hlt
      clear r1 r2 r3 HR
      by_cases e0 : P k = 0
      · have hp : (P k == 0) = true := by simp [e0]
        have hu : (P k != 3) = true := by simp [e0]
        have E0 : Hid (P k = 0) := e0
        clear e0
        by_cases ek : K k = 3
        · have hk3 : (K k == 3) = true := by simp [ek]
          have EK : Hid (K k = 3) := ek
          clear ek
          by_cases ew : W k = wv
          · have hw : (W k == wv) = true := by simp [ew]
            have EW : Hid (W k = wv) := ew
            clear ew
            go_wp2
            go_round
            case rel => first | exact ⟨k + 1, c1 + 1, c2 + 1, c3 + 1, c4 + 1, by omega, by go_num, by go_num, by go_num, by go_num, by go_num, HC.out.wav E0.out EK.out EW.out⟩ | ((repeat apply Exists.intro); exact ⟨⟨k + 1, c1 + 1, c2 + 1, c3 + 1, c4 + 1, by omega, by go_num, by go_num, by go_num, by go_num, by go_num, HC.out.wav E0.out EK.out EW.out⟩, rfl⟩)
            case measure => simp [intOf]; omega
          · have hw : (W k == wv) = false := by simp [ew]
            have EW : Hid (W k ≠ wv) := ew
            clear ew
            go_wp2
            go_round
            case rel => first | exact ⟨k + 1, c1, c2 + 1, c3 + 1, c4 + 1, by omega, by go_num, by go_num, by go_num, by go_num, by go_num, HC.out.pz E0.out EK.out EW.out⟩ | ((repeat apply Exists.intro); exact ⟨⟨k + 1, c1, c2 + 1, c3 + 1, c4 + 1, by omega, by go_num, by go_num, by go_num, by go_num, by go_num, HC.out.pz E0.out EK.out EW.out⟩, rfl⟩)
            case measure => simp [intOf]; omega
        · have hk3 : (K k == 3) = false := by simp [ek]
          have EK : Hid (K k ≠ 3) := ek
          clear ek
          go_wp2
          go_round
          case rel => first | exact ⟨k + 1, c1, c2, c3 + 1, c4 + 1, by omega, by go_num, by go_num, by go_num, by go_num, by go_num, HC.out.enl E0.out EK.out⟩ | ((repeat apply Exists.intro); exact ⟨⟨k + 1, c1, c2, c3 + 1, c4 + 1, by omega, by go_num, by go_num, by go_num, by go_num, by go_num, HC.out.enl E0.out EK.out⟩, rfl⟩)
          case measure => simp [intOf]; omega
      · have hp : (P k == 0) = false := by simp [e0]
        have E0 : Hid (P k ≠ 0) := e0
        clear e0
        by_cases e3 : P k = 3
        · have hu : (P k != 3) = false := by simp [e3]
          have E3 : Hid (P k = 3) := e3
          clear e3
          go_wp2
          go_round
          case rel => first | exact ⟨k + 1, c1, c2, c3, c4, by omega, by go_num, by go_num, by go_num, by go_num, by go_num, HC.out.fin E3.out⟩ | ((repeat apply Exists.intro); exact ⟨⟨k + 1, c1, c2, c3, c4, by omega, by go_num, by go_num, by go_num, by go_num, by go_num, HC.out.fin E3.out⟩, rfl⟩)
          case measure => simp [intOf]; omega
        · have hu : (P k != 3) = true := by simp [e3]
          have E3 : Hid (P k ≠ 3) := e3
          clear e3
          go_wp2
          go_round
          case rel => first | exact ⟨k + 1, c1, c2, c3, c4 + 1, by omega, by go_num, by go_num, by go_num, by go_num, by go_num, HC.out.mid E3.out E0.out⟩ | ((repeat apply Exists.intro); exact ⟨⟨k + 1, c1, c2, c3, c4 + 1, by omega, by go_num, by go_num, by go_num, by go_num, by go_num, HC.out.mid E3.out E0.out⟩, rfl⟩)
          case measure => simp [intOf]; omega
    · obtain rfl : k = n := by omega
      clear HC HR
      have T1 : Hid (0 < c1 → anyUp k (bWave K P W wv) = true) := fun h => by rw [← HQ.out.1]; simp [h]
      have F1 : Hid (¬ 0 < c1 → anyUp k (bWave K P W wv) = false) := fun h => by rw [← HQ.out.1]; simp [h]
      have T2 : Hid (0 < c2 → anyUp k (bPZ K P) = true) := fun h => by rw [← HQ.out.2.1]; simp [h]
      have F2 : Hid (¬ 0 < c2 → anyUp k (bPZ K P) = false) := fun h => by rw [← HQ.out.2.1]; simp [h]
      have T3 : Hid (0 < c3 → anyUp k (bEnl P) = true) := fun h => by rw [← HQ.out.2.2.1]; simp [h]
      have F3 : Hid (¬ 0 < c3 → anyUp k (bEnl P) = false) := fun h => by rw [← HQ.out.2.2.1]; simp [h]
      have T4 : Hid (0 < c4 → endOf k P = sFin) := fun h => by have : anyUp k (bUnf P) = true := by rw [← HQ.out.2.2.2]; simp [h]
                                                               simp [endOf, this]
      have F4 : Hid (¬ 0 < c4 → endOf k P = sEnd) := fun h => by have : anyUp k (bUnf P) = false := by rw [← HQ.out.2.2.2]; simp [h]
                                                                 simp [endOf, this]
      clear HQ
      by_cases z1 : 0 < c1
      · have y1 : (0 : Int) < (c1 : Int) := by omega
        go_wp2
        go_ret3
        exact ⟨by rw [after1 (T1.out z1)]; rfl, rfl⟩
      · have y1 : ¬ (0 : Int) < (c1 : Int) := by omega
        by_cases z4 : 0 < c4
        · have y4 : ((c4 : Int) == 0) = false := by simp; omega
          cases dm
          · by_cases z2 : 0 < c2
            · have y2 : (0 : Int) < (c2 : Int) := by omega
              go_wp2
              go_ret3
              exact ⟨by rw [after3 (F1.out z1) (T2.out z2)]; rfl, rfl⟩
            · have y2 : ¬ (0 : Int) < (c2 : Int) := by omega
              by_cases z3 : 0 < c3
              · have y3 : ((c3 : Int) == 0) = false := by simp; omega
                go_wp2
                go_ret3
                exact ⟨by rw [after4 (F1.out z1) (F2.out z2) (T3.out z3)]; rfl, rfl⟩
              · have y3 : ((c3 : Int) == 0) = true := by simp; omega
                go_wp2
                go_ret3
                exact ⟨by rw [after5 (F1.out z1) (F2.out z2) (F3.out z3), T4.out z4]; rfl, rfl⟩
          · go_wp2
            go_ret3
            exact ⟨by rw [after2 (F1.out z1), T4.out z4]; rfl, rfl⟩
        · have y4 : ((c4 : Int) == 0) = true := by simp; omega
          cases dm
          · by_cases z2 : 0 < c2
            · have y2 : (0 : Int) < (c2 : Int) := by omega
              go_wp2
              go_ret3
              exact ⟨by rw [after3 (F1.out z1) (T2.out z2)]; rfl, rfl⟩
            · have y2 : ¬ (0 : Int) < (c2 : Int) := by omega
              by_cases z3 : 0 < c3
              · have y3 : ((c3 : Int) == 0) = false := by simp; omega
                go_wp2
                go_ret3
                exact ⟨by rw [after4 (F1.out z1) (F2.out z2) (T3.out z3)]; rfl, rfl⟩
              · have y3 : ((c3 : Int) == 0) = true := by simp; omega
                go_wp2
                go_ret3
                exact ⟨by rw [after5 (F1.out z1) (F2.out z2) (F3.out z3), F4.out z4]; rfl, rfl⟩
          · go_wp2
            go_ret3
            exact ⟨by rw [after2 (F1.out z1), F4.out z4]; rfl, rfl⟩
end Go.Proofs.Qxb6606013a
