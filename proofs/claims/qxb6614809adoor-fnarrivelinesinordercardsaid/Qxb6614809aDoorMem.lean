/-
  Memory: rows of bytes, what an operation touches, appends. (Seat b6614809aD.)
-/
import Derived.Test.Qxb6614809aDoorRows
import Derived.WalkKit
import Derived.WalkSpells
import Derived.Outline
import Derived.Lib.AppendStr
import Derived.Lib.AppendIntMem
import Derived.Maps.AppendAt
import Derived.Deep.QuietTactic
import Derived.BigQuiet
import Derived.Deep.LoopGhost
import Derived.Deep.RegionHeld3
namespace Go.Proofs.Qxb6614809aDoor
open Go.RowKit
set_option linter.unusedVariables false

theorem hide {p : Prop} (h : p) : Hid p := h

/-- The blocks of a slice value's own row. -/
def fp (v : Value) : List Nat := v.ownBlock.toList

/-- From w to w': new blocks, and writes to the blocks of X alone; the structure's blocks are X before, X' behind: of X, or new. -/
structure Op (X : List Nat) (w : World) (X' : List Nat) (w' : World) : Prop where
  os : w'.os = w.os
  tape : w'.tape = w.tape
  output : w'.output = w.output
  size : w.heap.size ≤ w'.heap.size
  block : ∀ k, k < w.heap.size → k ∉ X → w'.heap[k]? = w.heap[k]?
  fresh : ∀ k ∈ X', k ∈ X ∨ w.heap.size ≤ k

theorem Op.refl (X : List Nat) (w : World) : Op X w X w := ⟨rfl, rfl, rfl, Nat.le_refl _, fun _ _ _ => rfl, fun _ h => .inl h⟩
theorem Op.trans {X X1 X2 : List Nat} {w w1 w2 : World} (h : Op X w X1 w1) (g : Op X1 w1 X2 w2) : Op X w X2 w2 := by
  refine ⟨g.os.trans h.os, g.tape.trans h.tape, g.output.trans h.output, Nat.le_trans h.size g.size, fun k hk hx => ?_, fun k hk => ?_⟩
  · rw [g.block k (Nat.lt_of_lt_of_le hk h.size) (fun h1 => ?_), h.block k hk hx]
    rcases h.fresh k h1 with h2 | h2
    · exact hx h2
    · omega
  · rcases g.fresh k hk with h1 | h1
    · exact h.fresh k h1
    · right; have := h.size; omega
/-- A greater structure of which X is a part. -/
theorem Op.mono {X X' Y Y' : List Nat} {w w' : World} (h : Op X w X' w') (hX : ∀ k ∈ X, k ∈ Y) (hY : ∀ k ∈ Y', k ∈ X' ∨ k ∈ Y) : Op Y w Y' w' := by
  refine ⟨h.os, h.tape, h.output, h.size, fun k hk hy => h.block k hk (fun hx => hy (hX k hx)), fun k hk => ?_⟩
  rcases hY k hk with h1 | h1
  · rcases h.fresh k h1 with h2 | h2
    · exact .inl (hX k h2)
    · exact .inr h2
  · exact .inl h1
theorem Op.left {X X' : List Nat} {w w' : World} (h : Op X w X' w') (Z : List Nat) : Op (X ++ Z) w (X' ++ Z) w' :=
  h.mono (fun k hk => List.mem_append_left _ hk) (fun k hk => (List.mem_append.1 hk).elim (fun h1 => .inl h1) (fun h1 => .inr (List.mem_append_right _ h1)))
theorem Op.right {X X' : List Nat} {w w' : World} (h : Op X w X' w') (Z : List Nat) : Op (Z ++ X) w (Z ++ X') w' :=
  h.mono (fun k hk => List.mem_append_right _ hk) (fun k hk => (List.mem_append.1 hk).elim (fun h1 => .inr (List.mem_append_left _ h1)) (fun h1 => .inl h1))
theorem Op.alloc (X : List Nat) (w : World) (o : Obj) : Op X w X (w.alloc o) :=
  ⟨rfl, rfl, rfl, by simp, fun k hk _ => Below.heap_alloc _ _ _ hk, fun k h => .inl h⟩
theorem Op.drewN (X : List Nat) (w : World) (n : Nat) : Op X w X (w.drewN n) := ⟨rfl, rfl, rfl, Nat.le_refl _, fun _ _ _ => rfl, fun _ h => .inl h⟩
theorem Op.setCell {X : List Nat} {w : World} {a : Addr} (ha : a.block ∈ X) (v : Value) : Op X w X (w.setCell a v) :=
  ⟨rfl, rfl, rfl, by simp [World.setCell], fun k hk hx => Below.heap_setCell _ _ _ _ (fun e => hx (by rw [e]; exact ha)), fun k h => .inl h⟩
theorem Op.below {X X' : List Nat} {w w' : World} {B : Nat} (h : Op X w X' w') (hX : ∀ k ∈ X, B ≤ k) (hB : B ≤ w.heap.size) : Below B w w' :=
  ⟨h.os, h.tape, h.output, h.size, fun k hk => h.block k (by omega) (fun hx => by have := hX k hx; omega)⟩
theorem Op.low {X X' : List Nat} {w w' : World} {B : Nat} (h : Op X w X' w') (hX : ∀ k ∈ X, B ≤ k) (hB : B ≤ w.heap.size) : ∀ k ∈ X', B ≤ k := fun k hk => by
  rcases h.fresh k hk with h1 | h1
  · exact hX k h1
  · omega
/-- Two structures apart stay apart. -/
theorem Op.apart {X X' Z : List Nat} {w w' : World} (h : Op X w X' w') (hd : ∀ k ∈ X, k ∉ Z) (hZ : ∀ k ∈ Z, k < w.heap.size) : ∀ k ∈ X', k ∉ Z := fun k hk hz => by
  rcases h.fresh k hk with h1 | h1
  · exact hd k h1 hz
  · have := hZ k hz; omega

/-- v is a slice of bytes (nil, or from the head of its own row on) that holds xs. -/
def Row (w : World) (v : Value) (xs : List UInt8) : Prop := w.ownsRow 0 5 1 v xs.length (Lib.byteCells xs)

theorem mem_fp {v : Value} {k : Nat} : k ∈ fp v ↔ v.ownBlock = some k := by
  unfold fp; cases v.ownBlock <;> simp [eq_comm]

theorem Row.lt {w : World} {v : Value} {xs : List UInt8} (h : Row w v xs) : ∀ k ∈ fp v, k < w.heap.size := fun k hk => (World.ownsRow.lt h k (mem_fp.1 hk)).2
theorem Row.kept {w w' : World} {v : Value} {xs : List UInt8} (h : Row w v xs) (hb : ∀ k ∈ fp v, w'.heap[k]? = w.heap[k]?) : Row w' v xs := by
  refine ⟨h.1, ?_⟩
  rcases h.2 with hn | ⟨g, cap, cur, rfl, hb', hg, rest⟩
  · exact .inl hn
  · exact .inr ⟨g, cap, cur, rfl, hb', by rw [hb g (mem_fp.2 rfl)]; exact hg, rest⟩
/-- A row that an operation does not touch. -/
theorem Row.op {w w' : World} {v : Value} {xs : List UInt8} {X X' : List Nat} (h : Row w v xs) (ho : Op X w X' w') (hd : ∀ k ∈ X, k ∉ fp v) : Row w' v xs :=
  h.kept fun k hk => ho.block k (h.lt k hk) (fun hx => hd k hx hk)
theorem Row.nil (w : World) : Row w (.slice none 0 0) [] := World.ownsRow_nil _ _ _ _
theorem Row.form {w : World} {v : Value} {xs : List UInt8} (h : Row w v xs) : (v = .slice none 0 0 ∧ xs = []) ∨ ∃ g cap, v = .slice (some ⟨g, 0, none⟩) xs.length cap ∧ xs.length ≤ cap ∧ cap ≤ maxLen ∧ g < w.heap.size := by
  rcases h.2 with ⟨h1, h2⟩ | ⟨g, cap, cur, h1, _, h2, h3, h4, _⟩
  · exact .inl ⟨h1, List.eq_nil_of_length_eq_zero h2⟩
  · exact .inr ⟨g, cap, h1, h3, h4, (Array.getElem?_eq_some_iff.1 h2).1⟩
/-- What its cells hold. -/
theorem Row.cell {w : World} {g n cap : Nat} {xs : List UInt8} (h : Row w (.slice (some ⟨g, 0, none⟩) n cap) xs) : ∀ j, j < xs.length → w.cell? ⟨g, j, none⟩ = some (.int .u8 ((xs.getD j 0).toNat : Int)) := by
  intro j hj
  have h1 := World.ownsRow.cells h (g := g) rfl j (.int .u8 ((xs.getD j 0).toNat : Int)) (by simp [Lib.byteCells, hj, List.getD_eq_getElem?_getD])
  have hadd : (⟨g, 0, none⟩ : Addr).add j = ⟨g, j, none⟩ := by unfold Addr.add; split <;> simp_all
  rwa [hadd] at h1

theorem info5 : (Tryd.prog.info? 5).map (fun i => (i.zero, i.size, i.bytes)) = some (some (.int .u8 0), 1, 1) := by kernel_rfl

theorem ok_inj {α : Type} {a b : α} {w v : World} (h : Result.ok a w = Result.ok b v) : a = b ∧ w = v := by cases h; exact ⟨rfl, rfl⟩

/-- Where what comes back lies. -/
theorem app_str_lies (w : World) (v v' : Value) (w' : World) (xs : List UInt8) (s : ByteArray) (h : Row w v xs) (hlen : xs.length + s.size ≤ 1000000000) (hr : (Builtin.append_ #[29, 9] 29 #[v, .string s]).run Tryd.prog w = .ok v' w') :
    v'.ownBlock = v.ownBlock ∨ v'.ownBlock = some w.heap.size := by
  obtain ⟨i, hi, hz0, hz1, hz2⟩ := info_parts info5
  have hxl : (Lib.byteCells xs).length = xs.length := by simp [Lib.byteCells]
  rcases h.2 with ⟨rfl, hn⟩ | ⟨g, cap, cur, rfl, _, hg, hnc, hcm, hcs, htake⟩
  · by_cases hs : s.size = 0
    · have hf := Lib.run_firstCells_string (P := Tryd.prog) w 1 s
      rw [hs] at hf
      have e : (Builtin.append_ #[29, 9] 29 #[.slice none 0 0, .string s]).run Tryd.prog w = .ok (.slice none 0 0) w := by
        have hsc : Lib.strCells s = [] := List.eq_nil_of_length_eq_zero (by rw [Lib.strCells_length]; exact hs)
        simp [Builtin.append_, run_underlying Tryd.underlying29, run_underlying Tryd.underlying9, sizeOf, typeInfo, hi, hz1, Builtin.lenOf, hs, hf]
      rw [e] at hr
      exact .inl (by rw [← (ok_inj hr).1])
    · have e := run_append_nil_string (P := Tryd.prog) w 29 9 29 5 i (.int .u8 0) Tryd.underlying29 Tryd.underlying9 hi hz0 s (by omega) (by omega) (by rw [hz2]; omega)
      rw [e] at hr
      exact .inr (by rw [← (ok_inj hr).1]; rfl)
  · by_cases hroom : xs.length + s.size ≤ cap
    · have e := Lib.run_append_room_string (P := Tryd.prog) w 29 9 29 5 i Tryd.underlying29 Tryd.underlying9 hi hz1 g xs.length cap cur hg s hroom (by omega)
      rw [e] at hr
      exact .inl (by rw [← (ok_inj hr).1]; rfl)
    · have holds := World.ownsRow.cells h (g := g) rfl
      have e := Lib.run_append_grow_string (P := Tryd.prog) w 29 9 29 5 i (.int .u8 0) Tryd.underlying29 Tryd.underlying9 hi hz0 ⟨g, 0, none⟩ xs.length cap (Lib.byteCells xs) (by rw [hz1, hxl]; omega) holds s (by omega) (by omega) (by rw [hz2]; exact growslice_fits (by omega) (by omega))
      rw [e] at hr
      exact .inr (by rw [← (ok_inj hr).1]; rfl)

theorem op_of_grown {w w' : World} {v v' : Value} (h2 : w.grownBy w' v.ownBlock) (h : v'.ownBlock = v.ownBlock ∨ v'.ownBlock = some w.heap.size) : Op (fp v) w (fp v') w' :=
  ⟨h2.os, h2.tape, h2.output, h2.size, fun k hk hx => h2.block k hk (fun e => hx (mem_fp.2 e.symm)), fun k hk => by
    rw [mem_fp] at hk ⊢
    rcases h with h | h
    · exact .inl (by rw [← h]; exact hk)
    · rw [h] at hk; exact .inr (by cases hk; exact Nat.le_refl _)⟩

/-- append(v, s...), s a string. -/
theorem app_str (w : World) (v : Value) (xs : List UInt8) (s : ByteArray) (h : Row w v xs) (hlen : xs.length + s.size ≤ 1000000000) :
    ∃ v' w', (Builtin.append_ #[29, 9] 29 #[v, .string s]).run Tryd.prog w = .ok v' w' ∧ Row w' v' (xs ++ s.data.toList) ∧ Op (fp v) w (fp v') w' := by
  obtain ⟨i, hi, hz0, hz1, hz2⟩ := info_parts info5
  obtain ⟨v', w', hr, h1, h2, h3⟩ := Lib.run_append_own_string (P := Tryd.prog) w 0 29 9 29 5 i Tryd.underlying29 Tryd.underlying9 hi hz0 hz1 hz2 v xs.length (Lib.byteCells xs) h s (by unfold maxLen; omega) (by omega) (Nat.zero_le _)
  have hl : s.data.toList.length = s.size := rfl
  refine ⟨v', w', hr, ?_, op_of_grown h2 (app_str_lies w v v' w' xs s h hlen hr)⟩
  unfold Row
  rw [List.length_append, hl]
  have e : Lib.byteCells (xs ++ s.data.toList) = Lib.byteCells xs ++ Lib.strCells s := by simp [Lib.byteCells, Lib.strCells]
  rw [e]; exact h1

/-- append(v, ys...), ys the bytes from an address on. -/
theorem app_bytes (w : World) (v : Value) (xs ys : List UInt8) (a : Addr) (m c : Nat) (h : Row w v xs) (hm : ys.length = m) (hy : ∀ j, j < ys.length → w.cell? (a.add j) = some (.int .u8 ((ys.getD j 0).toNat : Int))) (hlen : xs.length + m ≤ 1000000000) :
    ∃ v' w', (Builtin.append_ #[29, 29] 29 #[v, .slice (some a) m c]).run Tryd.prog w = .ok v' w' ∧ Row w' v' (xs ++ ys) ∧ Op (fp v) w (fp v') w' := by
  obtain ⟨i, hi, hz0, hz1, hz2⟩ := info_parts info5
  obtain ⟨v', w', hr, h1, h2, h3, h4⟩ := run_append_own_at (P := Tryd.prog) w 0 29 29 5 i (.int .u8 0) 1 1 Tryd.underlying29 hi hz0 hz1 hz2 rfl (by decide) v xs.length (Lib.byteCells xs) h a m c (Lib.byteCells ys)
    (by simp [Lib.byteCells, hm]) (fun j u hj => by
      have hjl : j < ys.length := by
        have := (List.getElem?_eq_some_iff.1 hj).1
        simpa [Lib.byteCells] using this
      rw [hy j hjl]
      simp [Lib.byteCells, hjl] at hj
      simp [← hj, List.getD_eq_getElem?_getD, hjl]) (fun u hu => by simp only [Lib.byteCells, List.mem_map] at hu; obtain ⟨b, _, rfl⟩ := hu; rfl) (by unfold maxLen; omega) (by omega) (Nat.zero_le _)
  refine ⟨v', w', hr, ?_, op_of_grown h2 h4⟩
  unfold Row
  rw [List.length_append, hm]
  have e : Lib.byteCells (xs ++ ys) = Lib.byteCells xs ++ Lib.byteCells ys := by simp [Lib.byteCells]
  rw [e]; exact h1

/-- append(v, nil...). -/
theorem app_nil (w : World) (v : Value) (xs : List UInt8) (h : Row w v xs) : (Builtin.append_ #[29, 29] 29 #[v, .slice none 0 0]).run Tryd.prog w = .ok v w := by
  obtain ⟨i, hi, hz0, hz1, hz2⟩ := info_parts info5
  rcases h.form with ⟨rfl, rfl⟩ | ⟨g, cap, rfl, h1, h2, h3⟩
  · simp [Builtin.append_, run_underlying Tryd.underlying29, sizeOf, typeInfo, hi, Builtin.lenOf, Builtin.firstCells]
  · simp [Builtin.append_, run_underlying Tryd.underlying29, sizeOf, typeInfo, hi, Builtin.lenOf, Builtin.firstCells, h1, storeCells]

/-! ### An append whose run is known, as a step of the walk -/
section
variable {P : Program} {w : World}
theorem wp_app {o : Oper} {a : Act} {K : Act → World → Prop} {Q : Exit → Act → World → Prop} (s x : Operand) (t u : TypeId)
    (ho : o.op = .call { callee := .builtin .append, args := #[s, x], argTypes := #[t, u] }) (v y : Value) (hs : a.eval s = v) (hx : a.eval x = y) {v' : Value} {w' : World}
    (hr : (Builtin.append_ #[t, u] o.type #[v, y]).run P w = .ok v' w') (h : K (a.put o.dst v') w') : o.wp P a w K Q := by
  unfold Oper.wp execOp
  simp only [ho, resolve, invoke, builtin, Sem.run_bind, Sem.run_pure, Result.andThen_ok, List.map_toArray, List.map_cons, List.map_nil, hs, hx, hr]
  exact h
theorem wpL_app {ops : Array Oper} {rest : List Oper} {o : Oper} {a : Act} {Q : Exit → Act → World → Prop} (hgd : o.guard = none) (s x : Operand) (t u : TypeId)
    (ho : o.op = .call { callee := .builtin .append, args := #[s, x], argTypes := #[t, u] }) (v y : Value) (hs : a.eval s = v) (hx : a.eval x = y) {v' : Value} {w' : World}
    (hr : (Builtin.append_ #[t, u] o.type #[v, y]).run P w = .ok v' w') (h : wpList P ops Q rest (a.put o.dst v') w') : wpList P ops Q (o :: rest) a w :=
  wpList_plain hgd fun _ hK => wp_app s x t u ho v y hs hx hr (hK _ _ h)
theorem step_app {ops : Array Oper} {o : Oper} {a : Act} {K : Act → World → Prop} {Q : Exit → Act → World → Prop} {E : Prop} (hgd : o.guard = none) (s x : Operand) (t u : TypeId)
    (ho : o.op = .call { callee := .builtin .append, args := #[s, x], argTypes := #[t, u] }) (v y : Value) (hs : a.eval s = v) (hx : a.eval x = y) {v' : Value} {w' : World}
    (hr : (Builtin.append_ #[t, u] o.type #[v, y]).run P w = .ok v' w') (h : K (a.put o.dst v') w') :
    if Region.wanted o (yielded ops a.tmps) = true then Oper.wp P o a w K Q else E := by
  have hw : Region.wanted o (yielded ops a.tmps) = true := by simp [Region.wanted, hgd]
  rw [if_pos hw]
  exact wp_app s x t u ho v y hs hx hr h
end
end Go.Proofs.Qxb6614809aDoor
