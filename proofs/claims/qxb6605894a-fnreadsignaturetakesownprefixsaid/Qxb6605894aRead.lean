import Derived.Test.Qxb6605894aWalks
namespace Go.Proofs.Qxb6605894a
open Go.ChangeShapes Go.WideShapes Go.ChangeAt Go.RowKit
set_option linter.unusedVariables false

/-- Take's guard, the reader having failed, or too short: the reader fails, nil comes back. -/
theorem take_fail (R : Nat) (ad : Option Addr) (n c : Nat) (fl : Bool) (k : Int) (w : World) (hn : n ≤ 1048576) (hk0 : 0 ≤ k) (hk1 : k ≤ 1048576)
    (h0 : w.cell? ⟨R, 0, none⟩ = some (.slice ad n c)) (h1 : w.cell? ⟨R, 1, none⟩ = some (.bool fl)) (hf : w.frozen? ⟨R, 1, none⟩ = false) (hbad : fl = true ∨ (n : Int) < k) :
    Calls Try.prog 17 #[.pointer (some ⟨R, 0, none⟩), .int .i64 k] w fun e w' => e = .returned (.slice none 0 0) ∧ w' = w.setCell ⟨R, 1, none⟩ (.bool true) := by
  cases fl
  · have hlt : (n : Int) < k := by simpa using hbad
    clear hbad
    go_enter Try.func17, Try.ntmps17
    go_wp2
    go_ret
    exact ⟨rfl, rfl⟩
  · clear hbad
    go_enter Try.func17, Try.ntmps17
    go_wp2
    go_ret
    exact ⟨rfl, rfl⟩

theorem read_fail (R : Nat) (ad : Option Addr) (n c : Nat) (fl : Bool) (w : World) (hn : n ≤ 1048576)
    (h0 : w.cell? ⟨R, 0, none⟩ = some (.slice ad n c)) (h1 : w.cell? ⟨R, 1, none⟩ = some (.bool fl)) (hf : w.frozen? ⟨R, 1, none⟩ = false) (hbad : fl = true ∨ (n : Int) < 64) :
    Calls Try.prog 10 #[.pointer (some ⟨R, 0, none⟩)] w fun e w' => e = .returned (.slice none 0 0) ∧ w' = w.setCell ⟨R, 1, none⟩ (.bool true) := by
  have hnil := @Lib.run_eql_slice_nil Try.prog
  have ht := take_fail R ad n c fl 64 w hn (by omega) (by omega) h0 h1 hf hbad
  have HT : Hid (Calls Try.prog 17 #[.pointer (some ⟨R, 0, none⟩), .int .i64 64] w fun e w' => e = .returned (.slice none 0 0) ∧ w' = w.setCell ⟨R, 1, none⟩ (.bool true)) := ht
  clear ht
  go_enter Try.func10, Try.ntmps10
  go_wp2_with (first | (go_at_call 17; refine HT.out.mono ?_; rintro e w' ⟨rfl, rfl⟩) | go_in)
  go_ret
  exact ⟨rfl, rfl⟩

theorem take_ok (R b o n : Nat) (k : Nat) (w : World) (hn : n ≤ 1048576) (hk1 : k ≤ n)
    (h0 : w.cell? ⟨R, 0, none⟩ = some (.slice (some ⟨b, o, none⟩) n n)) (h1 : w.cell? ⟨R, 1, none⟩ = some (.bool false)) (hf : w.frozen? ⟨R, 0, none⟩ = false) :
    Calls Try.prog 17 #[.pointer (some ⟨R, 0, none⟩), .int .i64 k] w fun e w' => e = .returned (.slice (some ⟨b, o, none⟩) k k) ∧
      w' = w.setCell ⟨R, 0, none⟩ (.slice (some ⟨b, if n = k then o else o + k, none⟩) (n - k) (n - k)) := by
  go_enter Try.func17, Try.ntmps17
  go_wp2
  all_goals (go_ret; exact ⟨rfl, rfl⟩)

/-- bytes.Clone at a slice that is not nil: new memory of its own with the same numbers. -/
theorem bclone_some (b o n : Nat) (f : Nat → Int) (w : World) (hn : n ≤ 1048576)
    (hc : ∀ j, j < n → w.cell? ⟨b, o + j, none⟩ = some (.int .u8 (f j))) :
    Calls Try.prog 18 #[.slice (some ⟨b, o, none⟩) n n] w fun e w' => ∃ v, e = .returned v ∧
      w'.ownsRow w.heap.size 5 1 v n ((List.range n).map fun j => .int .u8 (f j)) ∧ v ≠ .slice none 0 0 ∧ Below w.heap.size w w' := by
  have hnil := @Lib.run_eql_slice_nil Try.prog
  obtain ⟨i0, hi, hz0, hz1, hz2⟩ := info_parts Try.info5
  have hown0 : (w.alloc (.cells #[] 5)).ownsRow w.heap.size 5 1 (.slice (some ⟨w.heap.size, 0, none⟩) 0 0) 0 [] := World.ownsRow_made w #[] 0 (Nat.le_refl _) (by unfold maxLen; omega) rfl
  have hnews : ∀ j u, ((List.range n).map fun j => Value.int .u8 (f j))[j]? = some u → (w.alloc (.cells #[] 5)).cell? ((⟨b, o, none⟩ : Addr).add j) = some u := by
    intro j u hj
    have hjn : j < n := by simpa using (List.getElem?_eq_some_iff.1 hj).1
    have hu : u = .int .u8 (f j) := by simpa [hjn] using hj.symm
    subst hu
    rw [Addr.add_lit]
    exact (World.cell?_alloc_lt w _ _ (World.block_lt_of_cell? w _ (hc j hjn))).trans (hc j hjn)
  have h1 : ∀ u ∈ ((List.range n).map fun j => Value.int .u8 (f j)), u.oneCell' = true := by
    intro u hu
    obtain ⟨_, _, rfl⟩ := List.mem_map.1 hu
    rfl
  have hb0 : Below w.heap.size w (w.alloc (.cells #[] 5)) := (Below.refl _ _).alloc (Nat.le_refl _) _
  have HID : Hid ((w.alloc (.cells #[] 5)).ownsRow w.heap.size 5 1 (.slice (some ⟨w.heap.size, 0, none⟩) 0 0) 0 [] ∧ (∀ j u, ((List.range n).map fun j => Value.int .u8 (f j))[j]? = some u → (w.alloc (.cells #[] 5)).cell? ((⟨b, o, none⟩ : Addr).add j) = some u) ∧ Below w.heap.size w (w.alloc (.cells #[] 5))) := ⟨hown0, hnews, hb0⟩
  clear hown0 hnews hb0 hc
  go_enter Try.func18, Try.ntmps18
  go_wp2_with (at_builtin; refine wpList_append_own _ rfl (.tmp 5) (.tmp 6) 24 rfl w.heap.size 5 i0 (.int .u8 0) 1 1 Try.underlying24 hi hz0 hz1 hz2 rfl (by decide) (.slice (some ⟨w.heap.size, 0, none⟩) 0 0) 0 [] rfl HID.out.1 ⟨b, o, none⟩ n n ((List.range n).map fun j => Value.int .u8 (f j)) rfl (by simp) HID.out.2.1 h1 (by unfold maxLen; omega) (by omega) (by simp) ?_; intro v' w' hown' hgrow hnn)
  simp only [Nat.zero_add, List.nil_append] at hown'
  go_ret
  refine ⟨_, rfl, hown', fun h => ?_, HID.out.2.2.grown hgrow (by simp) ?_⟩
  · have := hnn.1 h
    simp at this
  · intro k hk
    simp [Value.ownBlock] at hk
    omega

theorem own_shape {w : World} {base : Nat} {v : Value} {n : Nat} {xs : List Value} (h : w.ownsRow base 5 1 v n xs) (hne : v ≠ .slice none 0 0) :
    ∃ g cap, v = .slice (some ⟨g, 0, none⟩) n cap ∧ base ≤ g ∧ w.ownsRow base 5 1 (.slice (some ⟨g, 0, none⟩) n cap) n xs := by
  have h2 := h.2
  rcases h2 with ⟨h', _⟩ | ⟨g, cap, cur, rfl, hb, _⟩
  · exact absurd h' hne
  · exact ⟨g, cap, rfl, hb, h⟩

/-- readSignature, the reader not failed and long enough. -/
theorem read_ok (R b o n : Nat) (f : Nat → Int) (w : World) (hn : n ≤ 1048576) (hk1 : 64 ≤ n) (hbR : b ≠ R)
    (h0 : w.cell? ⟨R, 0, none⟩ = some (.slice (some ⟨b, o, none⟩) n n)) (h1 : w.cell? ⟨R, 1, none⟩ = some (.bool false)) (hf : w.frozen? ⟨R, 0, none⟩ = false)
    (hc : ∀ j, j < n → w.cell? ⟨b, o + j, none⟩ = some (.int .u8 (f j))) :
    Calls Try.prog 10 #[.pointer (some ⟨R, 0, none⟩)] w fun e w' => ∃ g cap, e = .returned (.slice (some ⟨g, 0, none⟩) 64 cap) ∧ w.heap.size ≤ g ∧
      w'.ownsRow w.heap.size 5 1 (.slice (some ⟨g, 0, none⟩) 64 cap) 64 ((List.range 64).map fun j => .int .u8 (f j)) ∧
      Below w.heap.size (w.setCell ⟨R, 0, none⟩ (.slice (some ⟨b, if n = 64 then o else o + 64, none⟩) (n - 64) (n - 64))) w' := by
  obtain ⟨w1, hw1⟩ : ∃ w1, w1 = w.setCell ⟨R, 0, none⟩ (.slice (some ⟨b, if n = 64 then o else o + 64, none⟩) (n - 64) (n - 64)) := ⟨_, rfl⟩
  have ht := take_ok R b o n 64 w hn hk1 h0 h1 hf
  rw [← hw1] at ht ⊢
  have hc1 : ∀ j, j < 64 → w1.cell? ⟨b, o + j, none⟩ = some (.int .u8 (f j)) := by
    intro j hj
    rw [hw1, World.cell?_of_block (w := w) (Below.heap_setCell _ _ _ _ hbR)]
    exact hc j (by omega)
  have hs1 : w1.heap.size = w.heap.size := by rw [hw1]; simp
  have hcl := bclone_some b o 64 f w1 (by omega) hc1
  rw [hs1] at hcl
  have HT : Hid (Calls Try.prog 17 #[.pointer (some ⟨R, 0, none⟩), .int .i64 ((64 : Nat) : Int)] w fun e w' => e = .returned (.slice (some ⟨b, o, none⟩) 64 64) ∧ w' = w1) := ht
  have HC : Hid (Calls Try.prog 18 #[.slice (some ⟨b, o, none⟩) 64 64] w1 fun e w' => ∃ v, e = .returned v ∧ w'.ownsRow w.heap.size 5 1 v 64 ((List.range 64).map fun j => .int .u8 (f j)) ∧ v ≠ .slice none 0 0 ∧ Below w.heap.size w1 w') := hcl
  clear hw1 ht hcl hc hc1 hs1 h0 h1 hf
  go_enter Try.func10, Try.ntmps10
  go_wp2_with (first | (go_at_call 17; refine HT.out.mono ?_; rintro e w' ⟨rfl, rfl⟩) | (go_at_call 18; refine HC.out.mono ?_; rintro e w' ⟨v, rfl, hown, hne, hbel⟩; obtain ⟨g, cap, hv, hg, hown'⟩ := own_shape hown hne; rw [hv]) | go_in)
  go_ret
  exact ⟨g, cap, rfl, hg, hown', hbel⟩

end Go.Proofs.Qxb6605894a
