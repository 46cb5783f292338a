import Derived.Test.Qxb6608526aFmtBytes
namespace Go.Proofs.Qxb6608526aFmt
open Go.ChangeShapes Go.WideShapes Go.ChangeAt Go.RowKit
set_option linter.unusedVariables false

/-- A slice's first n cells hold the numbers 'f 0', 'f 1', ..; of an empty one nothing is said. -/
def Reads (w : World) (a : Option Addr) (n : Nat) (f : Nat → Int) : Prop :=
  n = 0 ∨ ∃ b o, a = some ⟨b, o, none⟩ ∧ ∀ j, j < n → w.cell? ⟨b, o + j, none⟩ = some (.int .u8 (f j))

/-- zzSameBytes over two slices of one length that hold the same numbers: true; it only reads. -/
theorem same_true (a b : Option Addr) (n ca cb : Nat) (f : Nat → Int) (w : World) (hn : n ≤ 4194304) (ha : Reads w a n f) (hb : Reads w b n f) :
    Calls Tryf.prog 14 #[.slice a n ca, .slice b n cb] w fun e w' => e = .returned (.bool true) ∧ ∃ m, w' = w.drewN m := by
  rcases Nat.eq_zero_or_pos n with h0 | hpos
  · subst h0
    go_enter Tryf.func14, Tryf.ntmps14
    go_wp2
    refine wp_loop_rounds 1 ?_
    rw [rounds_succ]
    go_wp2
    go_ret
    exact ⟨rfl, 0, rfl⟩
  · obtain ⟨b1, o1, rfl, h1⟩ : ∃ b o, a = some ⟨b, o, none⟩ ∧ ∀ j, j < n → w.cell? ⟨b, o + j, none⟩ = some (.int .u8 (f j)) := by
      rcases ha with h | h
      · omega
      · exact h
    obtain ⟨b2, o2, rfl, h2⟩ : ∃ b' o, b = some ⟨b', o, none⟩ ∧ ∀ j, j < n → w.cell? ⟨b', o + j, none⟩ = some (.int .u8 (f j)) := by
      rcases hb with h | h
      · omega
      · exact h
    go_enter Tryf.func14, Tryf.ntmps14
    go_wp2
    go_loopw [5] (fun i wr => ∃ k : Nat, k ≤ n ∧ i = .int .i64 k ∧ ∃ m, wr = w.drewN m) (fun i _ => n - (intOf i).toNat)
    case atStart => exact ⟨0, Nat.zero_le _, rfl, 0, rfl⟩
    case round =>
      obtain ⟨k, hk, rfl, m, rfl⟩ := hrel
      by_cases hlt : k < n
      · have c1 := h1 k hlt
        have c2 := h2 k hlt
        have i1 : (k : Int) < (n : Int) := by omega
        clear h1 h2
        go_wp2
        go_quiet (fail)
        go_wp2
        go_roundw
        case rel => exact ⟨k + 1, by omega, by go_num, _, rfl⟩
        case measure => simp [intOf]; omega
      · clear h1 h2
        go_wp2
        go_ret
        exact ⟨rfl, _, rfl⟩

theorem take_ints (s : ByteArray) (k : Nat) (h : k < s.size) : cells ((ints s).take (k + 1)) = cells ((ints s).take k) ++ [.int .u8 (s[k].toNat : Int)] := by
  have hl := ints_length s
  rw [List.take_succ_eq_append_getElem (by omega), cells_append]
  congr 1
  simp [cells, ints]
  rfl

theorem news_at (W : World) (N : Nat) (cs : Array Value) (t : TypeId) (h : W.heap.size = N) : ∀ j u, cs.toList[j]? = some u → (W.alloc (.cells cs t)).cell? ((⟨N, 0, none⟩ : Addr).add j) = some u :=
  World.news_of_block (by rw [← h]; exact heap_alloc_new W _)

/-- What the two loops of zzWritten have laid. -/
structure Wrt (w wx : World) (n k : Nat) (l : List Int) : Prop where
  own : wx.ownsRow w.heap.size 5 1 (.slice (some ⟨w.heap.size, 0, none⟩) k n) k (cells l)
  bel : Below w.heap.size w wx

set_option maxHeartbeats 800000 in
theorem written (s l : ByteArray) (w : World) (hs : s.size ≤ 1048576) (hl : l.size ≤ 1048576) :
    Calls Tryf.prog 12 #[.string s, .string l] w fun e w' => e = .returned (.slice (some ⟨w.heap.size, 0, none⟩) (wl s l) (wl s l)) ∧ Wrt w w' (wl s l) (wl s l) (wby s l) := by
  obtain ⟨i0, hi, hz0, hz1, hz2⟩ := info_parts Tryf.info5
  have hwl : wl s l ≤ 2097153 := by unfold wl; split <;> omega
  by_cases h : s.size = 0
  · have he : s.toList.isEmpty = true := by rw [empty_iff]; simp [h]
    have EW : Hid (wl s l = l.size ∧ wby s l = ints l) := by constructor <;> simp [wl, wby, h]
    go_enter Tryf.func12, Tryf.ntmps12
    go_wp2_with (first
      | (go_at_call 17; refine (zzWL s l _ hs hl).mono ?_; rintro e w' ⟨rfl, rfl⟩)
      | (at_make; refine wpList_make_own _ rfl _ _ 34 rfl w.heap.size 5 i0 (.int .u8 0) 1 Tryf.underlying34 hi hz0 hz1 _ _ _ (wl s l) rfl rfl (by omega) (by rw [hz2]; omega) (by unfold maxLen; omega) (Nat.le_refl _) ?_; intro w1 hown1 hgrow1))
    go_loopw [5, 7] (fun v i wx => ∃ k : Nat, k ≤ l.size ∧ i = .int .i64 k ∧ v = .slice (some ⟨w.heap.size, 0, none⟩) (0 + k) (wl s l) ∧ Wrt w wx (wl s l) (0 + k) ([] ++ (ints l).take k)) (fun _ i _ => l.size - (intOf i).toNat)
    case atStart => exact ⟨0, Nat.zero_le _, rfl, rfl, ⟨hown1, (Below.refl _ _).grown hgrow1 (Nat.le_refl _) (by simp)⟩⟩
    case round =>
      obtain ⟨k, hk, rfl, rfl, hw⟩ := hrel
      have HW : Hid (Wrt w wr (wl s l) (0 + k) ([] ++ (ints l).take k)) := hw
      clear hw
      have hsz := HW.out.bel.size
      by_cases hlt : k < l.size
      · go_wp2_with (at_builtin; refine wpList_append_fits _ rfl (.tmp 35) (.tmp 39) 34 rfl w.heap.size 5 i0 1 Tryf.underlying34 hi hz1 w.heap.size (0 + k) (wl s l) _ rfl (HW.out.own.alloc _) ⟨wr.heap.size, 0, none⟩ 1 1 [.int .u8 ((l[k]'hlt).toNat : Int)] rfl rfl (news_at _ _ #[.int .u8 ((l[k]'hlt).toNat : Int)] 5 rfl) (by simp [Value.oneCell']) (by have := EW.out.1; omega) ?_; intro w2 hown2 hgrow2)
        go_roundw
        case rel => exact ⟨k + 1, by omega, by go_num, by first | rfl | simp, ⟨by rw [cells_append, take_ints _ _ hlt, ← List.append_assoc, ← cells_append]; exact hown2, (HW.out.bel.alloc hsz _).grown hgrow2 (by simp; omega) (by simp)⟩⟩
        case measure => simp [intOf]; omega
      · obtain rfl : k = l.size := by omega
        have EK : Hid (Wrt w wr (wl s l) (wl s l) (wby s l)) := by
          have h1 := HW.out
          rw [List.take_of_length_le (by rw [ints_length]; exact Nat.le_refl _)] at h1
          rw [EW.out.2]
          have e : 0 + l.size = wl s l := by have := EW.out.1; omega
          rw [e] at h1
          exact h1
        have ek : 0 + l.size = wl s l := by have := EW.out.1; omega
        rw [ek]
        go_wp2
        go_ret
        exact ⟨rfl, EK.out⟩
  · have he : s.toList.isEmpty = false := by rw [empty_iff]; simp [h]
    have EW : Hid (wl s l = s.size + 1 + l.size ∧ wby s l = (ints s ++ [58]) ++ ints l) := by constructor <;> simp [wl, wby, h]
    go_enter Tryf.func12, Tryf.ntmps12
    go_wp2_with (first
      | (go_at_call 17; refine (zzWL s l _ hs hl).mono ?_; rintro e w' ⟨rfl, rfl⟩)
      | (at_make; refine wpList_make_own _ rfl _ _ 34 rfl w.heap.size 5 i0 (.int .u8 0) 1 Tryf.underlying34 hi hz0 hz1 _ _ _ (wl s l) rfl rfl (by omega) (by rw [hz2]; omega) (by unfold maxLen; omega) (Nat.le_refl _) ?_; intro w1 hown1 hgrow1))
    go_loopw [5, 6] (fun v i wx => ∃ k : Nat, k ≤ s.size ∧ i = .int .i64 k ∧ v = .slice (some ⟨w.heap.size, 0, none⟩) (0 + k) (wl s l) ∧ Wrt w wx (wl s l) (0 + k) ([] ++ (ints s).take k)) (fun _ i _ => s.size - (intOf i).toNat)
    case atStart => exact ⟨0, Nat.zero_le _, rfl, rfl, ⟨hown1, (Below.refl _ _).grown hgrow1 (Nat.le_refl _) (by simp)⟩⟩
    case round =>
      obtain ⟨k, hk, rfl, rfl, hw⟩ := hrel
      have HW : Hid (Wrt w wr (wl s l) (0 + k) ([] ++ (ints s).take k)) := hw
      clear hw
      have hsz := HW.out.bel.size
      by_cases hlt : k < s.size
      · go_wp2_with (at_builtin; refine wpList_append_fits _ rfl (.tmp 20) (.tmp 24) 34 rfl w.heap.size 5 i0 1 Tryf.underlying34 hi hz1 w.heap.size (0 + k) (wl s l) _ rfl (HW.out.own.alloc _) ⟨wr.heap.size, 0, none⟩ 1 1 [.int .u8 ((s[k]'hlt).toNat : Int)] rfl rfl (news_at _ _ #[.int .u8 ((s[k]'hlt).toNat : Int)] 5 rfl) (by simp [Value.oneCell']) (by have := EW.out.1; omega) ?_; intro w2 hown2 hgrow2)
        go_roundw
        case rel => exact ⟨k + 1, by omega, by go_num, by first | rfl | simp, ⟨by rw [cells_append, take_ints _ _ hlt, ← List.append_assoc, ← cells_append]; exact hown2, (HW.out.bel.alloc hsz _).grown hgrow2 (by simp; omega) (by simp)⟩⟩
        case measure => simp [intOf]; omega
      · obtain rfl : k = s.size := by omega
        have EK : Hid (Wrt w wr (wl s l) s.size (ints s)) := by
          have h1 := HW.out
          rw [List.take_of_length_le (by rw [ints_length]; exact Nat.le_refl _), Nat.zero_add] at h1
          exact h1
        rw [Nat.zero_add]
        clear HW hown1 hgrow1
        obtain ⟨w3, rfl⟩ : ∃ x, x = wr := ⟨_, rfl⟩
        go_wp2_with (at_builtin; refine wpList_append_fits _ rfl (.tmp 26) (.tmp 27) 34 rfl w.heap.size 5 i0 1 Tryf.underlying34 hi hz1 w.heap.size s.size (wl s l) _ rfl (EK.out.own.alloc _) ⟨w3.heap.size, 0, none⟩ 1 1 [.int .u8 58] rfl rfl (news_at _ _ #[.int .u8 58] 5 rfl) (by simp [Value.oneCell']) (by have := EW.out.1; omega) ?_; intro w4 hown4 hgrow4)
        have HW4 : Hid (Wrt w w4 (wl s l) (s.size + 1) (ints s ++ [58])) := ⟨by rw [cells_append]; exact hown4, (EK.out.bel.alloc hsz _).grown hgrow4 (by simp; omega) (by simp)⟩
        clear hown4 hgrow4 EK
        go_loopw [5, 7] (fun v i wx => ∃ k : Nat, k ≤ l.size ∧ i = .int .i64 k ∧ v = .slice (some ⟨w.heap.size, 0, none⟩) (s.size + 1 + k) (wl s l) ∧ Wrt w wx (wl s l) (s.size + 1 + k) ((ints s ++ [58]) ++ (ints l).take k)) (fun _ i _ => l.size - (intOf i).toNat)
        case atStart => exact ⟨0, Nat.zero_le _, rfl, rfl, by simpa using HW4.out⟩
        case round =>
          obtain ⟨k, hk, rfl, rfl, hw⟩ := hrel
          have HW : Hid (Wrt w wr (wl s l) (s.size + 1 + k) ((ints s ++ [58]) ++ (ints l).take k)) := hw
          clear hw
          have hsz := HW.out.bel.size
          by_cases hlt : k < l.size
          · go_wp2_with (at_builtin; refine wpList_append_fits _ rfl (.tmp 35) (.tmp 39) 34 rfl w.heap.size 5 i0 1 Tryf.underlying34 hi hz1 w.heap.size (s.size + 1 + k) (wl s l) _ rfl (HW.out.own.alloc _) ⟨wr.heap.size, 0, none⟩ 1 1 [.int .u8 ((l[k]'hlt).toNat : Int)] rfl rfl (news_at _ _ #[.int .u8 ((l[k]'hlt).toNat : Int)] 5 rfl) (by simp [Value.oneCell']) (by have := EW.out.1; omega) ?_; intro w2 hown2 hgrow2)
            go_roundw
            case rel => exact ⟨k + 1, by omega, by go_num, by first | rfl | simp, ⟨by rw [cells_append, take_ints _ _ hlt, ← List.append_assoc, ← cells_append]; exact hown2, (HW.out.bel.alloc hsz _).grown hgrow2 (by simp; omega) (by simp)⟩⟩
            case measure => simp [intOf]; omega
          · obtain rfl : k = l.size := by omega
            have EK : Hid (Wrt w wr (wl s l) (wl s l) (wby s l)) := by
              have h1 := HW.out
              rw [List.take_of_length_le (by rw [ints_length]; exact Nat.le_refl _)] at h1
              rw [EW.out.2]
              have e : s.size + 1 + l.size = wl s l := by have := EW.out.1; omega
              rw [e] at h1
              exact h1
            have ek : s.size + 1 + l.size = wl s l := by have := EW.out.1; omega
            rw [ek]
            go_wp2
            go_ret
            exact ⟨rfl, EK.out⟩
end Go.Proofs.Qxb6608526aFmt
