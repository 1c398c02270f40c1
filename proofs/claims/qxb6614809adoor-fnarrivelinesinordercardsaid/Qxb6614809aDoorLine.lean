/-
  (*lineWriter).write.
-/
import Derived.Test.Qxb6614809aDoorBio4
import Derived.Test.Qxb6614809aDoorTexts2
namespace Go.Proofs.Qxb6614809aDoor
open Go.RowKit
set_option linter.unusedVariables false

/-- A bufio.Writer over a bytes.Buffer: out is all that has been written; X: its blocks. -/
def IsWr (X : List Nat) (wB bB : Nat) (out : List UInt8) (w : World) : Prop :=
  ∃ dB XB cur head tail, Wr wB dB bB XB cur head tail w ∧ out = head ++ tail ∧ X = wB :: dB :: XB

theorem IsWr.lt {X : List Nat} {wB bB : Nat} {out : List UInt8} {w : World} (h : IsWr X wB bB out w) : ∀ k ∈ X, k < w.heap.size := by
  obtain ⟨dB, XB, cur, head, tail, h1, _, rfl⟩ := h
  exact h1.lt
theorem IsWr.kept {X : List Nat} {wB bB : Nat} {out : List UInt8} {w w' : World} (h : IsWr X wB bB out w) (hb : ∀ k ∈ X, w'.heap[k]? = w.heap[k]?) : IsWr X wB bB out w' := by
  obtain ⟨dB, XB, cur, head, tail, h1, h2, rfl⟩ := h
  exact ⟨dB, XB, cur, head, tail, h1.kept hb, h2, rfl⟩
theorem IsWr.op {X : List Nat} {wB bB : Nat} {out : List UInt8} {w w' : World} {Y Y' : List Nat} (h : IsWr X wB bB out w) (ho : Op Y w Y' w') (hd : ∀ k ∈ Y, k ∉ X) : IsWr X wB bB out w' :=
  h.kept fun k hk => ho.block k (h.lt k hk) (fun hy => hd k hy hk)
theorem IsWr.mem {X : List Nat} {wB bB : Nat} {out : List UInt8} {w : World} (h : IsWr X wB bB out w) : wB ∈ X := by
  obtain ⟨dB, XB, cur, head, tail, h1, _, rfl⟩ := h
  simp

/-- Write of a row's bytes. -/
theorem IsWr.write {X : List Nat} {wB bB pb c : Nat} {out ys : List UInt8} {w : World} (h : IsWr X wB bB out w) (hrow : Row w (.slice (some ⟨pb, 0, none⟩) ys.length c) ys) (hpb : pb ∉ X) (hlim : out.length + ys.length ≤ 400000000) :
    Calls Tryd.prog 26 #[.pointer (some ⟨wB, 0, none⟩), .slice (some ⟨pb, 0, none⟩) ys.length c] w fun e w' => e = .returned (.tuple #[.int .i64 ys.length, .nilIface]) ∧ ∃ X', IsWr X' wB bB (out ++ ys) w' ∧ Op X w X' w' := by
  obtain ⟨dB, XB, cur, head, tail, h1, rfl, rfl⟩ := h
  have hf := hrow.form
  rcases hf with ⟨e, _⟩ | ⟨g, cap, e, hn, hm, hl⟩
  · cases e
  · cases e
    refine (bioWrite_any wB dB bB pb 0 c XB cur head tail ys w h1 hn hm hpb hl (fun j hj => by rw [Nat.zero_add]; exact hrow.cell j hj) hlim).mono ?_
    rintro e w' ⟨rfl, XB', cur', head', tail', h2, h3, h4⟩
    exact ⟨rfl, _, ⟨dB, XB', cur', head', tail', h2, h3.symm, rfl⟩, h4⟩

/-- The lineWriter of block lB: its line's row v, its writer; Y: all its blocks. -/
structure Ln (Y : List Nat) (lB wB bB : Nat) (v : Value) (xs : List UInt8) (X : List Nat) (out : List UInt8) (w : World) : Prop where
  blk : w.heap[lB]? = some (.cells #[.pointer (some ⟨wB, 0, none⟩), v] 43 (0, 0))
  row : Row w v xs
  wr : IsWr X wB bB out w
  n1 : lB ∉ fp v
  n2 : lB ∉ X
  n3 : ∀ k ∈ fp v, k ∉ X
  foot : Y = lB :: (fp v ++ X)

theorem Ln.lt {Y : List Nat} {lB wB bB : Nat} {v : Value} {xs : List UInt8} {X : List Nat} {out : List UInt8} {w : World} (h : Ln Y lB wB bB v xs X out w) : ∀ k ∈ Y, k < w.heap.size := by
  intro k hk
  rw [h.foot] at hk
  simp at hk
  rcases hk with rfl | hk | hk
  · exact lt_of_heap h.blk
  · exact h.row.lt k hk
  · exact h.wr.lt k hk
theorem Ln.kept {Y : List Nat} {lB wB bB : Nat} {v : Value} {xs : List UInt8} {X : List Nat} {out : List UInt8} {w w' : World} (h : Ln Y lB wB bB v xs X out w) (hb : ∀ k ∈ Y, w'.heap[k]? = w.heap[k]?) : Ln Y lB wB bB v xs X out w' := by
  have hf := h.foot
  exact ⟨by rw [hb lB (by rw [hf]; simp)]; exact h.blk, h.row.kept fun k hk => hb k (by rw [hf]; simp [hk]), h.wr.kept fun k hk => hb k (by rw [hf]; simp [hk]), h.n1, h.n2, h.n3, hf⟩

/-- What the line reads: everything but the fields. -/
def lineOf (t : Int) (fs : List UInt8) : List UInt8 := [123, 34, 116, 34, 58] ++ Lib.itoa t ++ [44, 34, 101, 118, 34, 58, 34] ++ [97, 114, 114, 105, 118, 101] ++ [34] ++ fs ++ [125, 10]

/-- The cells of an eventLog at an arrive's line. -/
def logCells (lB tB : Nat) (t g gi : Int) (fv nv : Value) : Array Value := #[.pointer (some ⟨lB, 0, none⟩), .pointer (some ⟨tB, 0, none⟩), .int .i64 t, .int .u8 0, .int .i64 g, .int .i64 gi, .int .i64 (-1), .int .i64 (-1), .int .i64 0, fv, nv]

set_option maxRecDepth 100000 in
set_option maxHeartbeats 2000000 in
theorem lineWrite_any {B : Nat} (Y : List Nat) (lB wB bB E tB fB fc : Nat) (v nv : Value) (xs fs : List UInt8) (X : List Nat) (out : List UInt8) (t g gi : Int) (w : World) (h : Ln Y lB wB bB v xs X out w) (hB : B ≤ w.heap.size) (hlow : ∀ k ∈ Y, B ≤ k) (htab : TabB B w)
    (hE : w.heap[E]? = some (.cells (logCells lB tB t g gi (.slice (some ⟨fB, 0, none⟩) fs.length fc) nv) 54 (0, 0))) (hEY : E ∉ Y) (hF : Row w (.slice (some ⟨fB, 0, none⟩) fs.length fc) fs) (hFY : fB ∉ Y) (t0 : -9223372036854775808 ≤ t) (t1 : t ≤ 9223372036854775807) (hfl : fs.length ≤ 2000000) (hol : out.length ≤ 100000000) :
    Calls Tryd.prog 23 #[.pointer (some ⟨lB, 0, none⟩), .pointer (some ⟨E, 2, none⟩)] w fun e w' => e = .returned (.tuple #[]) ∧ ∃ Y' v' xs' X', Ln Y' lB wB bB v' xs' X' (out ++ lineOf t fs) w' ∧ Op Y w Y' w' := by
  have hfoot := h.foot
  have hA : At B w v xs := ⟨h.row, hB, fun k hk => hlow k (by rw [hfoot]; simp [hk]), htab⟩
  obtain ⟨v0, hsl, h0, hf0⟩ := hA.trunc
  have hlB := lt_of_heap h.blk
  have hElt := lt_of_heap hE
  have hEv : E ∉ fp v := fun hk => hEY (by rw [hfoot]; simp [hk])
  have hFv : fB ∉ fp v := fun hk => hFY (by rw [hfoot]; simp [hk])
  -- the appends up to AppendInt
  obtain ⟨v1, w1, A1, H1, O1⟩ := h0.str ⟨#[123, 34, 116, 34, 58]⟩ (by show _ + 5 ≤ _; simp)
  rw [hf0] at O1
  have keepE : ∀ (u : Value) (W : World), Op (fp v) w (fp u) W → W.heap[E]? = some (.cells (logCells lB tB t g gi (.slice (some ⟨fB, 0, none⟩) fs.length fc) nv) 54 (0, 0)) := fun u W ho => (ho.block E hElt hEv).trans hE
  have c1 : w.cell? ⟨lB, 1, none⟩ = some v := by rw [cell_of_heap h.blk]; rfl
  have e1 : w1.cell? ⟨E, 2, none⟩ = some (.int .i64 t) := by rw [cell_of_heap (keepE _ _ O1.out)]; rfl
  have HU := hide (AppendInt_at H1.out t t0 t1 (by simp))
  have KE := hide keepE
  have HH := hide h
  have HF := hide hF
  clear h0 hA hE keepE h hF
  go_enter Tryd.func23, Tryd.ntmps23
  go_wp2_with (at_builtin; refine wpL_app rfl _ _ 29 9 rfl v0 _ rfl rfl A1.out ?_; refine Hid.out ?_)
  refine hide ?_
  go_wp2_with fail
  refine HU.out.mono ?_
  rintro e w2 ⟨v2, rfl, h2, o2⟩
  have O2 := hide (O1.out.trans o2)
  have HL := hide (itoa_le t t0 t1)
  obtain ⟨v3, w3, A3, H3, O3'⟩ := h2.str ⟨#[44, 34, 101, 118, 34, 58, 34]⟩ (by have := HL.out; show _ + 7 ≤ _; simp; omega)
  have O3 := hide (O2.out.trans O3'.out)
  obtain ⟨v4, w4, A4, H4, O4'⟩ := H3.out.str ⟨#[97, 114, 114, 105, 118, 101]⟩ (by have := HL.out; show _ + 6 ≤ _; simp; omega)
  have O4 := hide (O3.out.trans O4'.out)
  obtain ⟨v5, w5, A5, H5, O5'⟩ := H4.out.lit [34] #[.int .u8 34] 1 rfl rfl (by have := HL.out; simp; omega)
  have O5 := hide (O4.out.trans O5'.out)
  have hF5 : Row w5 (.slice (some ⟨fB, 0, none⟩) fs.length fc) fs := HF.out.op O5.out (fun k hk => by rw [mem_fp]; intro e; simp [Value.ownBlock] at e; exact hFv (by rw [e]; exact hk))
  obtain ⟨v6, w6, A6', h6, O6'⟩ := app_bytes w5 v5 _ fs ⟨fB, 0, none⟩ fs.length fc H5.out.row rfl (fun j hj => by rw [Lib.add_plain, Nat.zero_add]; exact hF5.cell j hj) (by have := HL.out; simp; omega)
  have A6 := hide A6'
  have H6 := hide (H5.out.op h6 O6')
  have O6 := hide (O5.out.trans O6')
  obtain ⟨v7, w7, A7, H7, O7'⟩ := H6.out.str ⟨#[125, 10]⟩ (by have := HL.out; show _ + 2 ≤ _; simp; omega)
  have O7 := hide (O6.out.trans O7'.out)
  have k3 : w3.cell? ⟨E, 3, none⟩ = some (.int .u8 0) := by rw [cell_of_heap (KE.out _ _ O3.out)]; rfl
  have g3 : w3.cell? ⟨1, 0, none⟩ = some (.string ⟨#[97, 114, 114, 105, 118, 101]⟩) := H3.out.tab.here.2
  have p5 : w5.cell? ⟨E, 7, none⟩ = some (.int .i64 (-1)) := by rw [cell_of_heap (KE.out _ _ O5.out)]; rfl
  have f5 : w5.cell? ⟨E, 9, none⟩ = some (.slice (some ⟨fB, 0, none⟩) fs.length fc) := by rw [cell_of_heap (KE.out _ _ O5.out)]; rfl
  have hb7 : w7.heap[lB]? = some (.cells #[.pointer (some ⟨wB, 0, none⟩), v] 43 (0, 0)) := (O7.out.block lB hlB HH.out.n1).trans HH.out.blk
  have l7 : w7.cell? ⟨lB, 1, none⟩ = some v := by rw [cell_of_heap hb7]; rfl
  have q7 : w7.cell? ⟨lB, 0, none⟩ = some (.pointer (some ⟨wB, 0, none⟩)) := by rw [cell_of_heap hb7]; rfl
  have z7 : w7.frozen? ⟨lB, 1, none⟩ = false := frozen_of_heap hb7 1
  obtain ⟨L, hL⟩ : ∃ L, L = lineOf t fs := ⟨_, rfl⟩
  have hLl : L.length ≤ 2000100 := by rw [hL]; have := HL.out; simp [lineOf]; omega
  have hL0 : 0 < L.length := by rw [hL]; simp [lineOf]
  have r7 : At B w7 v7 L := by
    have := H7.out
    rw [hL]
    simpa [lineOf] using this
  have HLN := hide hL
  obtain ⟨pB, pc, hv7, hpn, hpm, hplt⟩ : ∃ g cap, v7 = .slice (some ⟨g, 0, none⟩) L.length cap ∧ L.length ≤ cap ∧ cap ≤ maxLen ∧ g < w7.heap.size := by
    rcases r7.row.form with ⟨_, e⟩ | h
    · rw [e] at hL0; simp at hL0
    · exact h
  subst hv7
  -- the world behind 'lw.line = ..'
  have hpl : pB ≠ lB := fun e => by
    rcases O7.out.fresh pB (mem_fp.2 rfl) with h1 | h1
    · exact HH.out.n1 (by rw [← e]; exact h1)
    · omega
  have hpX : pB ∉ X := fun hx => by
    rcases O7.out.fresh pB (mem_fp.2 rfl) with h1 | h1
    · exact HH.out.n3 pB h1 hx
    · have := HH.out.wr.lt pB hx; omega
  have hs7 : (w7.setCell ⟨lB, 1, none⟩ (.slice (some ⟨pB, 0, none⟩) L.length pc)).heap[lB]? = some (.cells #[.pointer (some ⟨wB, 0, none⟩), .slice (some ⟨pB, 0, none⟩) L.length pc] 43 (0, 0)) := by rw [Lib.heap_setCell_same hb7]; simp
  have hr7 : Row (w7.setCell ⟨lB, 1, none⟩ (.slice (some ⟨pB, 0, none⟩) L.length pc)) (.slice (some ⟨pB, 0, none⟩) L.length pc) L := r7.row.kept fun k hk => by
    rw [mem_fp] at hk; simp [Value.ownBlock] at hk
    exact Below.heap_setCell _ _ _ _ (by simp; omega)
  have hw7 : IsWr X wB bB out (w7.setCell ⟨lB, 1, none⟩ (.slice (some ⟨pB, 0, none⟩) L.length pc)) := HH.out.wr.kept fun k hk => by
    rw [Below.heap_setCell _ _ _ _ (fun e => HH.out.n2 (by have e' : k = lB := e; rw [← e']; exact hk))]
    exact O7.out.block k (HH.out.wr.lt k hk) (fun hv => HH.out.n3 k hv hk)
  have ho7 : Op Y w (lB :: ([pB] ++ X)) (w7.setCell ⟨lB, 1, none⟩ (.slice (some ⟨pB, 0, none⟩) L.length pc)) := by
    refine Op.trans (X1 := lB :: ([pB] ++ X)) (O7.out.mono (fun k hk => by rw [hfoot]; simp [hk]) (fun k hk => ?_)) (Op.setCell (by simp) _)
    rw [hfoot]
    simp at hk
    rcases hk with h1 | h1 | h1
    · right; simp [h1]
    · left; rw [mem_fp, h1]; rfl
    · right; simp [h1]
  have hlt8 : lB < (w7.setCell ⟨lB, 1, none⟩ (.slice (some ⟨pB, 0, none⟩) L.length pc)).heap.size := lt_of_heap hs7
  have hcall : ∀ W, W.heap = (w7.setCell ⟨lB, 1, none⟩ (.slice (some ⟨pB, 0, none⟩) L.length pc)).heap → Calls Tryd.prog 26 #[.pointer (some ⟨wB, 0, none⟩), .slice (some ⟨pB, 0, none⟩) L.length pc] W fun e w' => e = .returned (.tuple #[.int .i64 L.length, .nilIface]) ∧ w'.cell? ⟨lB, 0, none⟩ = some (.pointer (some ⟨wB, 0, none⟩)) ∧ w'.cell? ⟨lB, 1, none⟩ = some (.slice (some ⟨pB, 0, none⟩) L.length pc) ∧ Hid (∃ X', IsWr X' wB bB (out ++ L) w' ∧ Op X W X' w') := fun W hW => by
    refine ((hw7.kept (w' := W) (fun k _ => by rw [hW])).write (hr7.kept (w' := W) (fun k _ => by rw [hW])) hpX (by omega)).mono ?_
    rintro e w' ⟨rfl, X', hX, hO⟩
    have hb8 : w'.heap[lB]? = some (.cells #[.pointer (some ⟨wB, 0, none⟩), .slice (some ⟨pB, 0, none⟩) L.length pc] 43 (0, 0)) := by
      rw [hO.block lB (by rw [hW]; exact hlt8) HH.out.n2, hW]; exact hs7
    exact ⟨rfl, by rw [cell_of_heap hb8]; rfl, by rw [cell_of_heap hb8]; rfl, X', hX, hO⟩
  have HC := hide hcall
  have HS7 := hide hs7
  have HR7 := hide hr7
  have HO7 := hide ho7
  have HPX := hide hpX
  clear hs7 hr7 hw7 ho7 hcall r7 hL hLl hL0 hpX hplt hpn hpm
  clear h2 o2 A6' h6 O6' O1 O2 O3 O3' O4 O4' O5' O5 O7' O6 hF5 H1 H3 H4 H5 H6 e1
  go_wp2_with (at_builtin; refine wpL_app rfl _ _ 29 9 rfl v2 _ rfl rfl A3.out ?_; refine Hid.out ?_)
  refine hide ?_
  go_wp2_with (at_builtin; refine wpL_app rfl _ _ 29 9 rfl v3 _ rfl rfl A4.out ?_; refine Hid.out ?_)
  refine hide ?_
  go_wp2_with (at_builtin; refine wpL_app rfl _ _ 29 29 rfl v4 _ rfl rfl A5.out ?_; refine Hid.out ?_)
  refine hide ?_
  go_wp2_with (at_builtin; refine wpL_app rfl _ _ 29 29 rfl v5 _ rfl rfl A6.out ?_; refine Hid.out ?_)
  refine hide ?_
  go_wp2_with (at_builtin; refine wpL_app rfl _ _ 29 9 rfl v6 _ rfl rfl A7.out ?_; refine Hid.out ?_)
  refine hide ?_
  go_wp2_with fail
  have s0 : (w7.setCell ⟨lB, 1, none⟩ (.slice (some ⟨pB, 0, none⟩) L.length pc)).cell? ⟨lB, 0, none⟩ = some (.pointer (some ⟨wB, 0, none⟩)) := by rw [cell_of_heap HS7.out]; rfl
  have s1 : (w7.setCell ⟨lB, 1, none⟩ (.slice (some ⟨pB, 0, none⟩) L.length pc)).cell? ⟨lB, 1, none⟩ = some (.slice (some ⟨pB, 0, none⟩) L.length pc) := by rw [cell_of_heap HS7.out]; rfl
  go_region_held3 (fun W => W.cell? ⟨lB, 0, none⟩ = some (.pointer (some ⟨wB, 0, none⟩)) ∧ W.cell? ⟨lB, 1, none⟩ = some (.slice (some ⟨pB, 0, none⟩) L.length pc)) (go_keep)
    (first | (go_at_call 26; refine (HC.out _ (by rfl)).mono ?_; rintro e w8 ⟨rfl, d0, d1, HX⟩))
  go_wp2
  go_end0
  obtain ⟨X', hX, hO⟩ := HX.out
  rw [← HLN.out]
  have hb8 : w8.heap[lB]? = some (.cells #[.pointer (some ⟨wB, 0, none⟩), .slice (some ⟨pB, 0, none⟩) L.length pc] 43 (0, 0)) := (hO.block lB hlt8 HH.out.n2).trans HS7.out
  refine ⟨rfl, lB :: ([pB] ++ X'), .slice (some ⟨pB, 0, none⟩) L.length pc, L, X', ⟨hb8, ?_, hX, ?_, ?_, ?_, rfl⟩, HO7.out.trans ((Op.drewN _ _ 1).trans ?_)⟩
  · exact (HR7.out.kept (w' := World.drewN _ 1) (fun _ _ => rfl)).op hO (fun k hk => by rw [mem_fp]; intro e; simp [Value.ownBlock] at e; exact HPX.out (by rw [e]; exact hk))
  · rw [mem_fp]; simp [Value.ownBlock]; exact hpl
  · intro hk
    rcases hO.fresh _ hk with h1 | h1
    · exact HH.out.n2 h1
    · exact absurd hlt8 (Nat.not_lt.2 h1)
  · intro k hk hx
    rw [mem_fp] at hk; simp [Value.ownBlock] at hk; subst hk
    rcases hO.fresh _ hx with h1 | h1
    · exact HPX.out h1
    · have := HR7.out.lt pB (mem_fp.2 rfl); exact absurd this (Nat.not_lt.2 h1)
  · exact hO.mono (fun k hk => by simp [hk]) (fun k hk => by simp at hk ⊢; rcases hk with h1 | h1 | h1 <;> simp [h1])
end Go.Proofs.Qxb6614809aDoor
