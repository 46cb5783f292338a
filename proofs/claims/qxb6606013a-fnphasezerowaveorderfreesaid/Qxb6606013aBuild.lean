import Derived.Test.Qxb6606013aChk
import Derived.Deep.RegionHeld3
import Derived.Deep.AppendLies
import Derived.Deep.DrawnRows
namespace Go.Proofs.Qxb6606013a
open Go.ChangeShapes Go.WideShapes Go.ChangeAt Go.RowKit
set_option linter.unusedVariables false
attribute [local go_sem ↓] Go.wp_at_zero Go.wp_at_succ

/-- append within the capacity, as one step of a region that draws its order. -/
theorem step_append_fits {P : Program} {w : World} {ops : Array Oper} {o : Oper} {a : Act} {K : Act → World → Prop} {Q : Exit → Act → World → Prop} {E : Prop}
    (hg : o.guard = none) (s x : Operand) (t : TypeId) (hop : o.op = Op.call { callee := Callee.builtin Builtin.append, args := #[s, x], argTypes := #[t, t] })
    (base : Nat) (e : TypeId) (i : TypeInfo) (size : Nat) (h1 : P.underlying t = some (.slice e)) (h2 : P.info? e = some i) (h4 : i.size = size)
    (g k cap : Nat) (xs : List Value) (hs : a.eval s = .slice (some ⟨g, 0, none⟩) k cap) (hown : w.ownsRow base e size (.slice (some ⟨g, 0, none⟩) k cap) k xs) (ad : Addr) (m c : Nat) (news : List Value) (hx : a.eval x = .slice (some ad) m c) (hn : news.length = m * size)
    (hc : ∀ j u, news[j]? = some u → w.cell? (ad.add j) = some u) (h1c : ∀ u ∈ news, u.oneCell' = true) (b1 : k + m ≤ cap)
    (hK : ∀ w', w'.ownsRow base e size (.slice (some ⟨g, 0, none⟩) (k + m) cap) (k + m) (xs ++ news) → w.grownBy w' (some g) → K (a.put o.dst (.slice (some ⟨g, 0, none⟩) (k + m) cap)) w') :
    if Region.wanted o (yielded ops a.tmps) = true then Oper.wp P o a w K Q else E := by
  have hw : Region.wanted o (yielded ops a.tmps) = true := by simp [Region.wanted, hg]
  rw [if_pos hw]
  obtain ⟨w', hrun, r1, r2⟩ := run_append_fits (P := P) w base t o.type e i size h1 h2 h4 g k cap xs hown ad m c news hn hc h1c b1
  unfold Oper.wp
  simp [execOp, hop, resolve, invoke, builtin, hs, hx, hrun, Result.andThen]
  exact hK w' r1 r2

theorem Try.info38 : (Try.prog.info? 38).map (fun i => (i.zero, i.size, i.bytes)) = some (some (.agg #[.int .u8 0, .int .u8 0, .int .i64 0]), 3, 16) := by kernel_rfl

/-- ZZnewBranch. -/
theorem newBranch (k p v : Int) (w : World) : Calls Try.prog 12 #[.int .u8 k, .int .u8 p, .int .i64 v] w fun e w' => e = .returned (.agg #[.int .u8 k, .int .u8 p, .int .i64 v]) ∧ w' = w.alloc (.cells #[.int .u8 k, .int .u8 p, .int .i64 v] 38) := by
  go_enter Try.func12, Try.ntmps12
  go_wp2
  exact bodyPost_ret (v := .agg #[.int .u8 k, .int .u8 p, .int .i64 v]) (by simp [results, Try.results12, go_sem]) rfl ⟨rfl, rfl⟩

/-- ZZnewTransaction. -/
theorem newTx (s o : ByteArray) (l sd : Bool) (wv : Int) (dm : Bool) (v : Option Addr) (n c : Nat) (w : World) :
    Calls Try.prog 13 #[.string s, .string o, .bool l, .bool sd, .int .i64 wv, .bool dm, .slice v n c] w fun e w' => e = .returned (.pointer (some ⟨w.heap.size, 0, none⟩)) ∧
      w' = w.alloc (.cells #[.string s, .string o, .bool l, .bool sd, .int .i64 wv, .bool dm, .slice v n c] 50) := by
  go_enter Try.func13, Try.ntmps13
  go_wp2
  go_ret
  exact ⟨rfl, rfl⟩

/-- The branches' cells, k of them. -/
def brCells (K P W : Nat → Int) : Nat → List Value
  | 0 => []
  | k + 1 => brCells K P W k ++ [.int .u8 (K k), .int .u8 (P k), .int .i64 (W k)]

theorem brCells_length (K P W : Nat → Int) : ∀ k, (brCells K P W k).length = k * 3
  | 0 => rfl
  | k + 1 => by simp [brCells, brCells_length K P W k]; omega

theorem brCells_at (K P W : Nat → Int) : ∀ k j, j < k → (brCells K P W k)[j * 3]? = some (.int .u8 (K j)) ∧ (brCells K P W k)[j * 3 + 1]? = some (.int .u8 (P j)) ∧ (brCells K P W k)[j * 3 + 2]? = some (.int .i64 (W j))
  | 0, j, h => by omega
  | k + 1, j, h => by
    have hl := brCells_length K P W k
    by_cases e : j = k
    · subst e
      simp only [brCells]
      rw [List.getElem?_append_right (by omega), List.getElem?_append_right (by omega), List.getElem?_append_right (by omega), hl]
      simp
    · obtain ⟨h0, h1, h2⟩ := brCells_at K P W k j (by omega)
      simp only [brCells]
      rw [List.getElem?_append_left (by omega), List.getElem?_append_left (by omega), List.getElem?_append_left (by omega)]
      exact ⟨h0, h1, h2⟩

/-- From the owned row to the branches as the transaction's functions want them; the transaction's own block laid behind it. -/
theorem tx_born {wr : World} {B S n : Nat} {s o : ByteArray} {l sd : Bool} {wv : Int} {dm : Bool} {K P W : Nat → Int} (h : wr.ownsRow B 38 3 (.slice (some ⟨S, 0, none⟩) n n) n (brCells K P W n)) :
    Tx (wr.alloc (.cells #[.string s, .string o, .bool l, .bool sd, .int .i64 wv, .bool dm, .slice (some ⟨S, 0, none⟩) n n] 50)) wr.heap.size S n s o l sd wv dm K P W := by
  have hS := (h.lt S rfl).2
  have hk := h.alloc (.cells #[.string s, .string o, .bool l, .bool sd, .int .i64 wv, .bool dm, .slice (some ⟨S, 0, none⟩) n n] 50)
  refine ⟨by omega, heap_alloc_new wr _, fun j hj => ?_, fun j => hk.frozenAt j, by simp; omega⟩
  obtain ⟨b0, b1, b2⟩ := brCells_at K P W n j hj
  exact ⟨(hk.cellAt _ (by omega)).trans b0, (hk.cellAt _ (by omega)).trans b1, (hk.cellAt _ (by omega)).trans b2⟩

theorem news_at (W : World) (N : Nat) (cs : Array Value) (t : TypeId) (h : W.heap.size = N) : ∀ j u, cs.toList[j]? = some u → (W.alloc (.cells cs t)).cell? ((⟨N, 0, none⟩ : Addr).add j) = some u :=
  World.news_of_block (by rw [← h]; exact heap_alloc_new W _)

theorem build_pos (s o : ByteArray) (l sd : Bool) (wv : Int) (dm : Bool) (K P W : Nat → Int) (b1 o1 c1 b2 o2 c2 b3 o3 c3 n : Nat) (w : World) (hn : n ≤ 4096)
    (hK : ∀ j, j < n → w.cell? ⟨b1, o1 + j, none⟩ = some (.int .u8 (K j))) (hP : ∀ j, j < n → w.cell? ⟨b2, o2 + j, none⟩ = some (.int .u8 (P j))) (hW : ∀ j, j < n → w.cell? ⟨b3, o3 + j, none⟩ = some (.int .i64 (W j))) :
    Calls Try.prog 8 #[.string s, .string o, .bool l, .bool sd, .int .i64 wv, .bool dm, .slice (some ⟨b1, o1, none⟩) n c1, .slice (some ⟨b2, o2, none⟩) n c2, .slice (some ⟨b3, o3, none⟩) n c3] w fun e w' =>
      ∃ T S, e = .returned (.pointer (some ⟨T, 0, none⟩)) ∧ Tx w' T S n s o l sd wv dm K P W ∧ w.heap.size ≤ S ∧ w.heap.size ≤ T ∧ Below w.heap.size w w' := by
  obtain ⟨i0, hi, hz0, hz1, hz2⟩ := info_parts Try.info38
  have HC : Hid (∀ w' j, Below w.heap.size w w' → j < n → w'.cell? ⟨b1, o1 + j, none⟩ = some (.int .u8 (K j)) ∧ w'.cell? ⟨b2, o2 + j, none⟩ = some (.int .u8 (P j)) ∧ w'.cell? ⟨b3, o3 + j, none⟩ = some (.int .i64 (W j))) :=
    fun w' j hb hj => ⟨cell_later hb (hK j hj), cell_later hb (hP j hj), cell_later hb (hW j hj)⟩
  clear hK hP hW
  go_enter Try.func8, Try.ntmps8
  go_wp2_with (at_make; refine wpList_make_own _ rfl _ _ 34 rfl w.heap.size 38 i0 (.agg #[.int .u8 0, .int .u8 0, .int .i64 0]) 3 Try.underlying34 hi hz0 hz1 _ _ _ n rfl rfl (by omega) (by rw [hz2]; omega) (by unfold maxLen; omega) (Nat.le_refl _) ?_; intro w1 hown1 hgrow1)
  have hb1 : Below w.heap.size w w1 := (Below.refl _ _).grown hgrow1 (Nat.le_refl _) (by simp)
  go_loopw [19, 20] (fun v i wr => ∃ k : Nat, k ≤ n ∧ i = .int .i64 k ∧ v = .slice (some ⟨w.heap.size, 0, none⟩) k n ∧ wr.ownsRow w.heap.size 38 3 (.slice (some ⟨w.heap.size, 0, none⟩) k n) k (brCells K P W k) ∧ Below w.heap.size w wr) (fun _ i _ => n - (intOf i).toNat)
  case atStart => exact ⟨0, Nat.zero_le _, rfl, rfl, hown1, hb1⟩
  case round =>
    obtain ⟨k, hk, rfl, rfl, hown, hbel⟩ := hrel
    clear hown1 hgrow1 hb1
    have HO : Hid (wr.ownsRow w.heap.size 38 3 (.slice (some ⟨w.heap.size, 0, none⟩) k n) k (brCells K P W k)) := hown
    have HB : Hid (Below w.heap.size w wr) := hbel
    clear hown hbel
    by_cases hlt : k < n
    · obtain ⟨d1, d2, d3⟩ := HC.out wr k HB.out hlt
      have i1 : (0 : Int) ≤ (k : Int) := by omega
      have i2 : (k : Int) < (n : Int) := by omega
      have hsz := HB.out.size
      go_wp2_with fail
      go_region_held3 (fun w' => w'.cell? ⟨b1, o1 + k, none⟩ = some (.int .u8 (K k)) ∧ w'.cell? ⟨b2, o2 + k, none⟩ = some (.int .u8 (P k)) ∧ w'.cell? ⟨b3, o3 + k, none⟩ = some (.int .i64 (W k)))
        (first | go_keep | exact HC.out _ k (Below.grown ((HB.out.drew.alloc (by simp; omega) _).alloc (by simp; omega) _) hgrow2 (by simp; omega) (by simp)) hlt)
        (first
          | (go_at_call 12; refine (newBranch _ _ _ _).mono ?_; rintro e w1 ⟨rfl, rfl⟩)
          | (refine step_append_fits (by rfl) _ _ 34 (by rfl) w.heap.size 38 i0 3 Try.underlying34 hi hz1 w.heap.size k n (brCells K P W k) (by rfl) ((HO.out.drew.alloc _).alloc _) ⟨wr.heap.size + 1, 0, none⟩ 1 1 [.int .u8 (K k), .int .u8 (P k), .int .i64 (W k)] (by rfl) rfl (news_at _ _ #[.int .u8 (K k), .int .u8 (P k), .int .i64 (W k)] _ (by simp)) (by simp [Value.oneCell']) (by omega) ?_; intro w2 hown2 hgrow2))
      all_goals
        go_wp2
        go_roundw
        case rel => exact ⟨k + 1, by omega, by go_num, rfl, hown2, Below.grown ((HB.out.drew.alloc (by simp; omega) _).alloc (by simp; omega) _) hgrow2 (by simp; omega) (by simp)⟩
        case measure => simp [intOf]; omega
    · obtain rfl : k = n := by omega
      have hsz := HB.out.size
      go_wp2_with (go_at_call 13; refine (newTx _ _ _ _ _ _ _ _ _ _).mono ?_; rintro e w1 ⟨rfl, rfl⟩)
      go_ret
      exact ⟨_, _, rfl, tx_born HO.out, Nat.le_refl _, hsz, HB.out.alloc hsz _⟩

/-- zzBuildTx. -/
theorem build (s o : ByteArray) (l sd : Bool) (wv : Int) (dm : Bool) (K P W : Nat → Int) (ak ap aw : Option Addr) (ck cp cw n : Nat) (w : World) (hn : n ≤ 4096)
    (hK : Reads .u8 w ak n K) (hP : Reads .u8 w ap n P) (hW : Reads .i64 w aw n W) :
    Calls Try.prog 8 #[.string s, .string o, .bool l, .bool sd, .int .i64 wv, .bool dm, .slice ak n ck, .slice ap n cp, .slice aw n cw] w fun e w' =>
      ∃ T S, e = .returned (.pointer (some ⟨T, 0, none⟩)) ∧ Tx w' T S n s o l sd wv dm K P W ∧ w.heap.size ≤ S ∧ w.heap.size ≤ T ∧ Below w.heap.size w w' := by
  rcases Nat.eq_zero_or_pos n with h0 | hp
  · subst h0
    clear hK hP hW
    obtain ⟨i0, hi, hz0, hz1, hz2⟩ := info_parts Try.info38
    go_enter Try.func8, Try.ntmps8
    go_wp2_with (at_make; refine wpList_make_own _ rfl _ _ 34 rfl w.heap.size 38 i0 (.agg #[.int .u8 0, .int .u8 0, .int .i64 0]) 3 Try.underlying34 hi hz0 hz1 _ _ _ 0 rfl rfl (by omega) (by rw [hz2]; omega) (by unfold maxLen; omega) (Nat.le_refl _) ?_; intro w1 hown1 hgrow1)
    have hb1 : Below w.heap.size w w1 := (Below.refl _ _).grown hgrow1 (Nat.le_refl _) (by simp)
    have hsz := hb1.size
    refine wp_loop_rounds 1 ?_
    rw [rounds_succ]
    go_wp2_with (go_at_call 13; refine (newTx _ _ _ _ _ _ _ _ _ _).mono ?_; rintro e w1 ⟨rfl, rfl⟩)
    go_ret
    exact ⟨_, _, rfl, tx_born (K := K) (P := P) (W := W) hown1, Nat.le_refl _, hsz, hb1.alloc hsz _⟩
  · obtain ⟨b1, o1, rfl, r1⟩ := hK.at hp
    obtain ⟨b2, o2, rfl, r2⟩ := hP.at hp
    obtain ⟨b3, o3, rfl, r3⟩ := hW.at hp
    exact build_pos s o l sd wv dm K P W b1 o1 ck b2 o2 cp b3 o3 cw n w hn r1 r2 r3
end Go.Proofs.Qxb6606013a
