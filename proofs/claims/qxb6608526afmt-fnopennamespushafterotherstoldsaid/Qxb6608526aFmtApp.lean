import Derived.Test.Qxb6608526aFmtWrit
namespace Go.Proofs.Qxb6608526aFmt
open Go.ChangeShapes Go.WideShapes Go.ChangeAt Go.RowKit
set_option linter.unusedVariables false

section
variable {P : Program} (w : World)

/-- append of a string onto an owned row of bytes, and where the new slice lies: in the old row, or in the block that is made now. -/
theorem run_append_str_at (base : Nat) (t u ty e : TypeId) (i : TypeInfo) (ht : P.underlying t = some (.slice e)) (hu : P.underlying u = some .string) (hi : P.info? e = some i) (hz : i.zero = some (.int .u8 0))
    (hsize : i.size = 1) (hby : i.bytes = 1) (v : Value) (n : Nat) (xs : List Value) (hown : w.ownsRow base e 1 v n xs) (s : ByteArray)
    (h63 : n + s.size ≤ maxLen) (hbytes : n + s.size ≤ 140737488355328) (hbase : base ≤ w.heap.size) :
    ∃ v' w', (Builtin.append_ #[t, u] ty #[v, .string s]).run P w = .ok v' w' ∧ w'.ownsRow base e 1 v' (n + s.size) (xs ++ Lib.strCells s) ∧ w.grownBy w' v.ownBlock ∧ (v'.ownBlock = v.ownBlock ∨ v'.ownBlock = some w.heap.size) := by
  obtain ⟨v', w', hr, h2, h3, h4⟩ := Lib.run_append_own_string (P := P) w base t u ty e i ht hu hi hz hsize hby v n xs hown s h63 hbytes hbase
  refine ⟨v', w', hr, h2, h3, ?_⟩
  have hxl : xs.length = n := by simpa using hown.1
  rcases hown.2 with ⟨rfl, rfl⟩ | ⟨g, cap, cur, rfl, hbg, hg, hnc, hcm, hcs, htake⟩
  · by_cases hm : s.size = 0
    · left
      rw [h4.2 ⟨rfl, hm⟩]
    · right
      have hr' := run_append_nil_string (P := P) w t u ty e i (.int .u8 0) ht hu hi hz s (by omega) (by omega) (by rw [hby]; omega)
      rw [hr'] at hr
      injection hr with e1 _
      rw [← e1]; rfl
  · by_cases hroom : n + s.size ≤ cap
    · left
      have hcs' : cur.size = cap := by simpa using hcs
      have hr' := Lib.run_append_room_string (P := P) w t u ty e i ht hu hi hsize g n cap cur hg s hroom (by omega)
      rw [hr'] at hr
      injection hr with e1 _
      rw [← e1]; rfl
    · right
      have holds : ∀ j u, xs[j]? = some u → w.cell? ((⟨g, 0, none⟩ : Addr).add j) = some u := hown.cells (g := g) rfl
      have hr' := Lib.run_append_grow_string (P := P) w t u ty e i (.int .u8 0) ht hu hi hz ⟨g, 0, none⟩ n cap xs (by rw [hsize]; simpa using hxl) holds s (by omega) (by unfold maxLen at h63; omega) (by rw [hby]; exact growslice_fits (by omega) (by omega))
      rw [hr'] at hr
      injection hr with e1 _
      rw [← e1]; rfl

theorem wpList_append_str_at {ops : Array Oper} {rest : List Oper} {o : Oper} {a : Act} {Q : Exit → Act → World → Prop} (hgd : o.guard = none) (sl x : Operand) (t u : TypeId)
    (ho : o.op = .call { callee := .builtin .append, args := #[sl, x], argTypes := #[t, u] })
    (base : Nat) (e : TypeId) (i : TypeInfo) (ht : P.underlying t = some (.slice e)) (hu : P.underlying u = some .string) (hi : P.info? e = some i) (hz : i.zero = some (.int .u8 0))
    (hsize : i.size = 1) (hby : i.bytes = 1)
    (v : Value) (n : Nat) (xs : List Value) (hs : a.eval sl = v) (hown : w.ownsRow base e 1 v n xs) (s : ByteArray) (hx : a.eval x = .string s)
    (h63 : n + s.size ≤ maxLen) (hbytes : n + s.size ≤ 140737488355328) (hbase : base ≤ w.heap.size)
    (h : ∀ v' w', w'.ownsRow base e 1 v' (n + s.size) (xs ++ Lib.strCells s) → w.grownBy w' v.ownBlock → (v'.ownBlock = v.ownBlock ∨ v'.ownBlock = some w.heap.size) → wpList P ops Q rest (a.put o.dst v') w') : wpList P ops Q (o :: rest) a w := by
  refine wpList_plain hgd fun K hK => ?_
  obtain ⟨v', w', hr, h2, h3, h4⟩ := run_append_str_at (P := P) w base t u o.type e i ht hu hi hz hsize hby v n xs hown s h63 hbytes hbase
  unfold Oper.wp execOp
  simp only [ho, resolve, invoke, builtin, Sem.run_bind, Sem.run_pure, Result.andThen_ok, List.map_toArray, List.map_cons, List.map_nil, hs, hx, hr]
  exact hK _ _ (h v' w' h2 h3 h4)
end

/-- All blocks that were there are as they were, but for those named. -/
structure Keeps (X : List Nat) (w w' : World) : Prop where
  os : w'.os = w.os
  tape : w'.tape = w.tape
  output : w'.output = w.output
  size : w.heap.size ≤ w'.heap.size
  block : ∀ k, k < w.heap.size → k ∉ X → w'.heap[k]? = w.heap[k]?

theorem Keeps.refl (X : List Nat) (w : World) : Keeps X w w := ⟨rfl, rfl, rfl, Nat.le_refl _, fun _ _ _ => rfl⟩
theorem Keeps.of_below {X : List Nat} {w w' : World} (h : Below w.heap.size w w') : Keeps X w w' := ⟨h.os, h.tape, h.output, h.size, fun k hk _ => h.block k hk⟩
theorem Keeps.set {X : List Nat} (w : World) (p : Addr) (hp : p.block ∈ X) (u : Value) : Keeps X w (w.setCell p u) :=
  ⟨rfl, rfl, rfl, by simp, fun k _ hx => Below.heap_setCell _ _ _ _ (fun e => hx (e ▸ hp))⟩
theorem Keeps.below {X : List Nat} {w w' : World} {B : Nat} (h : Keeps X w w') (hB : B ≤ w.heap.size) (hX : ∀ k ∈ X, B ≤ k) : Below B w w' :=
  ⟨h.os, h.tape, h.output, h.size, fun k hk => h.block k (by omega) (fun hh => by have := hX k hh; omega)⟩
theorem Keeps.grown {w w' : World} {row : Option Nat} (h : w.grownBy w' row) : Keeps row.toList w w' :=
  ⟨h.os, h.tape, h.output, h.size, fun k hk hx => h.block k hk (fun e => hx (by rw [← e]; simp))⟩
/-- Two steps: what the second one may write is what the first one may, or was made since. -/
theorem Keeps.step {X Y : List Nat} {a b c : World} (h : Keeps X a b) (k : Keeps Y b c) (hY : ∀ x ∈ Y, x ∈ X ∨ a.heap.size ≤ x) : Keeps X a c :=
  ⟨k.os.trans h.os, k.tape.trans h.tape, k.output.trans h.output, Nat.le_trans h.size k.size, fun i hi hx =>
    (k.block i (Nat.lt_of_lt_of_le hi h.size) (fun hy => by rcases hY i hy with h1 | h1; exact hx h1; omega)).trans (h.block i hi hx)⟩
theorem Keeps.sub {X Y : List Nat} {w w' : World} (h : Keeps X w w') (hs : ∀ k, k ∈ X → k ∈ Y) : Keeps Y w w' := ⟨h.os, h.tape, h.output, h.size, fun k hk hx => h.block k hk (fun hh => hx (hs k hh))⟩
theorem Keeps.drewN {X : List Nat} {a w : World} (h : Keeps X a w) (n : Nat) : Keeps X a (w.drewN n) := ⟨h.os, h.tape, h.output, h.size, h.block⟩
theorem Keeps.drew {X : List Nat} {a w : World} (h : Keeps X a w) : Keeps X a w.drew := ⟨h.os, h.tape, h.output, h.size, h.block⟩
theorem Keeps.from_drew {X : List Nat} {a w : World} (h : Keeps X a.drew w) : Keeps X a w := ⟨h.os, h.tape, h.output, h.size, h.block⟩

/-- The new slice lies in the old row, or in a block that was made since w. -/
def Lies (w : World) (v v' : Value) : Prop := ∀ b, v'.ownBlock = some b → v.ownBlock = some b ∨ w.heap.size ≤ b
theorem Lies.of {w : World} {v v' : Value} (h : v'.ownBlock = v.ownBlock ∨ v'.ownBlock = some w.heap.size) : Lies w v v' := by
  intro b hb
  rcases h with h | h
  · exact Or.inl (by rw [← h]; exact hb)
  · rw [hb] at h; exact Or.inr (by simp at h; omega)
theorem Lies.trans {w w1 : World} {v v1 v2 : Value} (h : Lies w v v1) (k : Lies w1 v1 v2) (hs : w.heap.size ≤ w1.heap.size) : Lies w v v2 := by
  intro b hb
  rcases k b hb with h1 | h1
  · exact h b h1
  · exact Or.inr (by omega)
theorem Lies.mono {w w1 : World} {v v' : Value} (h : Lies w1 v v') (hs : w.heap.size ≤ w1.heap.size) : Lies w v v' := fun b hb => by
  rcases h b hb with h1 | h1
  · exact Or.inl h1
  · exact Or.inr (by omega)

/-- What appendName leaves: v' owns the old bytes and the name as written. -/
structure Named (w w' : World) (base : Nat) (v v' : Value) (t : Nat) (bs : List Int) (s l : ByteArray) : Prop where
  own : w'.ownsRow base 5 1 v' (t + wl s l) (cells (bs ++ wby s l))
  keep : Keeps v.ownBlock.toList w w'
  lies : Lies w v v'

theorem mem_own {v : Value} {x : Nat} : x ∈ v.ownBlock.toList ↔ v.ownBlock = some x := by
  cases h : v.ownBlock <;> simp [eq_comm]

/-- A cell in a block that is not the row's own is as it was behind an append. -/
theorem cell_grown {w w' : World} {v : Value} {b o : Nat} {x : Value} (hg : w.grownBy w' v.ownBlock) (hc : w.cell? ⟨b, o, none⟩ = some x) (hne : ¬ v.ownBlock = some b) : w'.cell? ⟨b, o, none⟩ = some x :=
  hg.cell hc (fun e => hne e.symm)

set_option maxHeartbeats 800000 in
theorem appendName (base t : Nat) (v : Value) (bs : List Int) (s l : ByteArray) (w : World) (hs : s.size ≤ 1048576) (hl : l.size ≤ 1048576) (ht : t ≤ 4194304) (hown : w.ownsRow base 5 1 v t (cells bs)) (hbase : base ≤ w.heap.size) :
    Calls Tryf.prog 24 #[v, .agg #[.string s, .string l]] w fun e w' => ∃ v', e = .returned v' ∧ Named w w' base v v' t bs s l := by
  obtain ⟨i0, hi, hz0, hz1, hz2⟩ := info_parts Tryf.info5
  have HO : Hid (w.ownsRow base 5 1 v t (cells bs)) := hown
  clear hown
  by_cases h : s.size = 0
  · have he : s.toList.isEmpty = true := by rw [empty_iff]; simp [h]
    have EW : Hid (wl s l = l.size ∧ wby s l = ints l) := by constructor <;> simp [wl, wby, h]
    go_enter Tryf.func24, Tryf.ntmps24
    go_wp2_with (at_builtin; refine wpList_append_str_at _ rfl (.tmp 14) (.tmp 16) 34 9 rfl base 5 i0 Tryf.underlying34 Tryf.underlying9 hi hz0 hz1 hz2 v t (cells bs) rfl (HO.out.alloc _) l rfl (by unfold maxLen; omega) (by omega) (by simp; omega) ?_; intro v1 w1 hown1 hgrow1 hat1)
    go_ret
    refine ⟨_, rfl, ?_, ?_, ?_⟩
    · rw [EW.out.1, EW.out.2, cells_append, ← strCells_ints]; exact hown1
    · exact (Keeps.of_below ((Below.refl _ _).alloc (Nat.le_refl _) _)).step (Keeps.grown hgrow1) (fun x hx => Or.inl hx)
    · exact (Lies.of hat1).mono (by simp)
  · have he : s.toList.isEmpty = false := by rw [empty_iff]; simp [h]
    have EW : Hid (wl s l = s.size + 1 + l.size ∧ wby s l = (ints s ++ [58]) ++ ints l) := by constructor <;> simp [wl, wby, h]
    go_enter Tryf.func24, Tryf.ntmps24
    have hn0 : ¬ v.ownBlock = some w.heap.size := fun e => by have := (HO.out.lt _ e).2; omega
    go_wp2_with (first
      | (at_builtin; refine wpList_append_str_at _ rfl (.tmp 8) (.tmp 10) 34 9 rfl base 5 i0 Tryf.underlying34 Tryf.underlying9 hi hz0 hz1 hz2 v t (cells bs) rfl (HO.out.alloc _) s rfl (by unfold maxLen; omega) (by omega) (by simp; omega) ?_; intro v1 w1 hown1 hgrow1 hat1; have hz1' := hgrow1.size; have c11 := cell_grown (o := 1) hgrow1 (x := .string l) (by simp [go_sem]) hn0; have hn1 : ¬ v1.ownBlock = some w.heap.size := (fun e => by rcases hat1 with q | q <;> rw [e] at q; exact hn0 q.symm; simp at q); have l11 : w.heap.size < w1.heap.size := (by simp at hz1'; omega); have c11' := (fun (o : Obj) => (World.cell?_alloc_lt w1 o ⟨w.heap.size, 1, none⟩ l11).trans c11))
      | (at_builtin; refine wpList_append_own_at _ rfl (.tmp 11) (.tmp 12) 34 rfl base 5 i0 (.int .u8 0) 1 1 Tryf.underlying34 hi hz0 hz1 hz2 rfl (by decide) v1 (t + s.size) _ rfl (hown1.alloc _) ⟨w1.heap.size, 0, none⟩ 1 1 [.int .u8 58] rfl rfl (news_at _ _ #[.int .u8 58] 5 rfl) (by simp [Value.oneCell']) (by unfold maxLen; omega) (by omega) (by simp; omega) ?_; intro v2 w2 hown2 hgrow2 _ hat2; have hz2' := hgrow2.size; have c12 := cell_grown (o := 1) hgrow2 (c11' _) hn1)
      | (at_builtin; refine wpList_append_str_at _ rfl (.tmp 14) (.tmp 16) 34 9 rfl base 5 i0 Tryf.underlying34 Tryf.underlying9 hi hz0 hz1 hz2 v2 (t + s.size + 1) _ rfl hown2 l rfl (by unfold maxLen; omega) (by omega) (by simp at hz2'; omega) ?_; intro v3 w3 hown3 hgrow3 hat3))
    go_ret
    have hz3' := hgrow3.size
    simp at hz1' hz2'
    have k1 : Keeps v.ownBlock.toList w w1 := (Keeps.of_below ((Below.refl _ _).alloc (Nat.le_refl _) _)).step (Keeps.grown hgrow1) (fun x hx => Or.inl hx)
    have y1 : Lies w v v1 := (Lies.of hat1).mono (by simp)
    have k2 : Keeps v.ownBlock.toList w w2 := (k1.step (Keeps.of_below (X := []) ((Below.refl _ _).alloc (Nat.le_refl _) _)) (by simp)).step (Keeps.grown hgrow2) (fun x hx => by
      rcases y1 x (mem_own.1 hx) with q | q
      · exact Or.inl (mem_own.2 q)
      · exact Or.inr q)
    have y2 : Lies w v v2 := y1.trans (Lies.of hat2) (by simp; omega)
    have k3 : Keeps v.ownBlock.toList w w3 := k2.step (Keeps.grown hgrow3) (fun x hx => by
      rcases y2 x (mem_own.1 hx) with q | q
      · exact Or.inl (mem_own.2 q)
      · exact Or.inr q)
    have y3 : Lies w v v3 := y2.trans (Lies.of hat3) (by omega)
    refine ⟨_, rfl, ?_, k3, y3⟩
    have e1 : t + wl s l = t + s.size + 1 + l.size := by have := EW.out.1; omega
    rw [e1, EW.out.2]
    have e2 : cells (bs ++ (ints s ++ [58] ++ ints l)) = cells bs ++ Lib.strCells s ++ [.int .u8 58] ++ Lib.strCells l := by
      simp only [cells_append, strCells_ints, List.append_assoc]; rfl
    rw [e2]
    exact hown3
end Go.Proofs.Qxb6608526aFmt
