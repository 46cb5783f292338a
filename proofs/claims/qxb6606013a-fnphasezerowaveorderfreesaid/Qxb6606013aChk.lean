import Derived.Test.Qxb6606013aAns
namespace Go.Proofs.Qxb6606013a
open Go.ChangeShapes Go.WideShapes Go.ChangeAt Go.RowKit
set_option linter.unusedVariables false

/-- A slice's first n cells hold the numbers 'f 0', 'f 1', ..; of an empty one nothing is said. -/
def Reads (k : IntKind) (w : World) (a : Option Addr) (n : Nat) (f : Nat → Int) : Prop :=
  n = 0 ∨ ∃ b o, a = some ⟨b, o, none⟩ ∧ ∀ j, j < n → w.cell? ⟨b, o + j, none⟩ = some (.int k (f j))

theorem Reads.below {k : IntKind} {w w' : World} {a : Option Addr} {n : Nat} {f : Nat → Int} (h : Reads k w a n f) (hb : Below w.heap.size w w') : Reads k w' a n f := by
  rcases h with h | ⟨b, o, ha, hc⟩
  · exact Or.inl h
  · exact Or.inr ⟨b, o, ha, fun j hj => (hb.cell (p := ⟨b, o + j, none⟩) (World.block_lt_of_cell? w _ (hc j hj))).trans (hc j hj)⟩

theorem Reads.at {k : IntKind} {w : World} {a : Option Addr} {n : Nat} {f : Nat → Int} (h : Reads k w a n f) (hn : 0 < n) : ∃ b o, a = some ⟨b, o, none⟩ ∧ ∀ j, j < n → w.cell? ⟨b, o + j, none⟩ = some (.int k (f j)) := by
  rcases h with h | h
  · omega
  · exact h

/-- ZZtxBranch. -/
theorem txBranch (T S n i : Nat) (s o : ByteArray) (l sd : Bool) (wv : Int) (dm : Bool) (K P W : Nat → Int) (w : World) (hn : n ≤ 4096) (hi : i < n) (h : Tx w T S n s o l sd wv dm K P W) :
    Calls Try.prog 17 #[.pointer (some ⟨T, 0, none⟩), .int .i64 i] w fun e w' => e = .returned (.tuple #[.int .u8 (K i), .int .u8 (P i), .int .i64 (W i)]) ∧ Below w.heap.size w w' := by
  obtain ⟨c0, c1, c2, c3, c4, c5, c6⟩ := h.cells
  obtain ⟨b0, b1, b2⟩ := h.br i hi
  have hT := h.ltT
  have hS := h.lt
  clear h c0 c1 c2 c3 c4 c5
  go_enter Try.func17, Try.ntmps17
  go_wp2
  go_quiet (fail)
  go_wp2
  exact bodyPost_ret (v := .tuple #[.int .u8 (K i), .int .u8 (P i), .int .i64 (W i)]) (by simp [results, Try.results17, go_sem]) rfl ⟨rfl, below_drewN ((Below.refl _ _).alloc (Nat.le_refl _) _) _⟩

/-- zzSameHead, the head as told. -/
theorem sameHead (T S n : Nat) (s o : ByteArray) (l sd : Bool) (wv : Int) (dm : Bool) (K P W : Nat → Int) (w : World) (h : Tx w T S n s o l sd wv dm K P W) :
    Calls Try.prog 10 #[.pointer (some ⟨T, 0, none⟩), .string s, .string o, .int .i64 wv] w fun e w' => e = .returned (.bool true) ∧ ∃ m, w' = w.drewN m := by
  have H : Hid (Tx w T S n s o l sd wv dm K P W) := h
  clear h
  go_enter Try.func10, Try.ntmps10
  go_wp2_with (go_at_call 15; refine (txState T S n s o l sd wv dm K P W _ H.out).mono ?_; rintro e w1 ⟨rfl, m, rfl⟩)
  go_ret
  exact ⟨rfl, m, rfl⟩

/-- zzCheckTx, the transaction as told. -/
theorem checkTx (T S n : Nat) (s o : ByteArray) (l sd : Bool) (wv : Int) (dm : Bool) (K P W : Nat → Int) (ak ap aw : Option Addr) (ck cp cw : Nat) (w : World) (hn : n ≤ 4096) (h : Tx w T S n s o l sd wv dm K P W)
    (hK : Reads .u8 w ak n K) (hP : Reads .u8 w ap n P) (hW : Reads .i64 w aw n W) :
    Calls Try.prog 11 #[.pointer (some ⟨T, 0, none⟩), .string s, .string o, .bool l, .bool sd, .int .i64 wv, .bool dm, .slice ak n ck, .slice ap n cp, .slice aw n cw] w fun e w' => e = .returned (.bool true) ∧ Below w.heap.size w w' := by
  have H : Hid (Tx w T S n s o l sd wv dm K P W) := h
  have c6 := h.cells.2.2.2.2.2.2
  have HR : Hid (Reads .u8 w ak n K ∧ Reads .u8 w ap n P ∧ Reads .i64 w aw n W) := ⟨hK, hP, hW⟩
  clear h hK hP hW
  go_enter Try.func11, Try.ntmps11
  go_wp2_with (first
    | (go_at_call 15; refine (txState T S n s o l sd wv dm K P W _ H.out).mono ?_; rintro e w1 ⟨rfl, m, rfl⟩)
    | (go_at_call 16; go_in))
  go_loopw [27] (fun i wr => ∃ k : Nat, k ≤ n ∧ i = .int .i64 k ∧ Below w.heap.size w wr) (fun i _ => n - (intOf i).toNat)
  case atStart => exact ⟨0, Nat.zero_le _, rfl, below_drewN (Below.refl _ _) _⟩
  case round =>
    obtain ⟨k, hk, rfl, hbel⟩ := hrel
    have HBl : Hid (Below w.heap.size w wr) := hbel
    clear hbel c6
    by_cases hlt : k < n
    · obtain ⟨b1, o1, rfl, r1⟩ := HR.out.1.at (by omega)
      obtain ⟨b2, o2, rfl, r2⟩ := HR.out.2.1.at (by omega)
      obtain ⟨b3, o3, rfl, r3⟩ := HR.out.2.2.at (by omega)
      have R1 := r1 k hlt
      have R2 := r2 k hlt
      have R3 := r3 k hlt
      clear r1 r2 r3
      have HC : Hid (∀ w', Below w.heap.size w w' → w'.cell? ⟨b1, o1 + k, none⟩ = some (.int .u8 (K k)) ∧ w'.cell? ⟨b2, o2 + k, none⟩ = some (.int .u8 (P k)) ∧ w'.cell? ⟨b3, o3 + k, none⟩ = some (.int .i64 (W k))) :=
        fun w' hb => ⟨cell_later hb R1, cell_later hb R2, cell_later hb R3⟩
      clear R1 R2 R3
      go_wp2_with (go_at_call 17; refine (txBranch T S n k s o l sd wv dm K P W _ hn hlt (H.out.below HBl.out)).mono ?_; rintro e w1 ⟨rfl, hb1⟩; have hb2 := HBl.out.trans (hb1.mono HBl.out.size); obtain ⟨d1, d2, d3⟩ := HC.out w1 hb2)
      go_roundw
      case rel => first | exact ⟨k + 1, by omega, by go_num, hb2⟩ | ((repeat apply Exists.intro); exact ⟨⟨k + 1, by omega, by go_num, hb2⟩, rfl⟩)
      case measure => simp [intOf]; omega
    · go_wp2_with fail
      go_ret
      exact ⟨rfl, HBl.out⟩
end Go.Proofs.Qxb6606013a
