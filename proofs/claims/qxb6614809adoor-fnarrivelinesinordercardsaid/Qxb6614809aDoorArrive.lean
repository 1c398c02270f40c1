/-
  (*eventLog).arrive, ZZarrive.
-/
import Derived.Test.Qxb6614809aDoorLog2
namespace Go.Proofs.Qxb6614809aDoor
open Go.RowKit
set_option linter.unusedVariables false

/-- What a log's memory holds. -/
structure LogD where
  z : Nat
  E : Nat
  lB : Nat
  tB : Nat
  wL : Nat
  bL : Nat
  wT : Nat
  bT : Nat
  m : Nat
  YL : List Nat
  XL : List Nat
  YT : List Nat
  XT : List Nat
  lv : Value
  gv : Value
  ev : Value
  fv : Value
  nv : Value
  lx : List UInt8
  ex : List UInt8
  fx : List UInt8
  out : List UInt8
  outT : List UInt8
  noP : Int
  x2 : Value
  x3 : Value
  x4 : Value
  x5 : Value
  x6 : Value
  x7 : Value
  x8 : Value

/-- The blocks of it. -/
def LogD.foot (d : LogD) : List Nat := d.z :: d.E :: (fp d.fv ++ (d.YL ++ d.YT))

structure IsLog (d : LogD) (w : World) : Prop where
  hz : w.heap[d.z]? = some (.cells #[.pointer (some ⟨d.E, 0, none⟩), .pointer (some ⟨d.bL, 0, none⟩), .pointer (some ⟨d.bT, 0, none⟩)] 56 (0, 0))
  hE : w.heap[d.E]? = some (.cells #[.pointer (some ⟨d.lB, 0, none⟩), .pointer (some ⟨d.tB, 0, none⟩), d.x2, d.x3, d.x4, d.x5, d.x6, d.x7, d.x8, d.fv, d.nv] 54 (0, 0))
  ln : Ln d.YL d.lB d.wL d.bL d.lv d.lx d.XL d.out w
  tl : Tl d.YT d.tB d.wT d.bT d.noP d.nv d.gv d.ev d.m d.ex d.XT d.outT w
  row : Row w d.fv d.fx
  zE : d.z ≠ d.E
  zf : d.z ∉ fp d.fv
  zL : d.z ∉ d.YL
  zT : d.z ∉ d.YT
  Ef : d.E ∉ fp d.fv
  EL : d.E ∉ d.YL
  ET : d.E ∉ d.YT
  fL : ∀ k ∈ fp d.fv, k ∉ d.YL
  fT : ∀ k ∈ fp d.fv, k ∉ d.YT
  LT : ∀ k ∈ d.YL, k ∉ d.YT

/-- The fields of an arrive's line. -/
def fieldsOf (g : Int) (ys : List UInt8) : List UInt8 := [44, 34] ++ [103] ++ [34, 58] ++ Lib.itoa g ++ [44, 34, 103, 114, 111, 117, 112, 34, 58] ++ ys

/-- A log after a line. -/
structure Stepped (d d' : LogD) (line : List UInt8) (n : Nat) (w w' : World) : Prop where
  log : IsLog d' w'
  z : d'.z = d.z
  E : d'.E = d.E
  nv : d'.nv = d.nv
  noP : d'.noP = d.noP
  m : d'.m = d.m + 1
  out : d'.out = d.out ++ line
  outT : d'.outT.length ≤ d.outT.length + n + 500
  op : Op d.foot w d'.foot w'

/-- A name that lies below B. -/
structure NameAt (B : Nat) (w : World) (nv : Value) (gi : Nat) (ys : List UInt8) : Prop where
  ex : ∃ nB n c hv, nv = .slice (some ⟨nB, 0, none⟩) n c ∧ nB < B ∧ gi < n ∧ n ≤ 1000000 ∧ w.cell? ⟨nB, gi, none⟩ = some hv ∧ Row w hv ys ∧ ∀ k ∈ fp hv, k < B

/-- The log at the call of write. -/
structure Mid (d : LogD) (t g : Int) (gi fB fc : Nat) (fs : List UInt8) (w w5 : World) : Prop where
  hE : w5.heap[d.E]? = some (.cells (logCells d.lB d.tB t g gi (.slice (some ⟨fB, 0, none⟩) fs.length fc) d.nv) 54 (0, 0))
  row : Row w5 (.slice (some ⟨fB, 0, none⟩) fs.length fc) fs
  op : Op (d.E :: fp d.fv) w (d.E :: fp (.slice (some ⟨fB, 0, none⟩) fs.length fc)) w5
  Ef : d.E ∉ fp (.slice (some ⟨fB, 0, none⟩) fs.length fc)

theorem Mid.facts {d : LogD} {t g : Int} {gi fB fc : Nat} {fs : List UInt8} {w w5 : World} (h : IsLog d w) (q : Mid d t g gi fB fc fs w w5) :
    Ln d.YL d.lB d.wL d.bL d.lv d.lx d.XL d.out w5 ∧ Tl d.YT d.tB d.wT d.bT d.noP d.nv d.gv d.ev d.m d.ex d.XT d.outT w5 ∧ fB ∉ d.YL ∧ fB ∉ d.YT := by
  have hL : ∀ k ∈ d.E :: fp d.fv, k ∉ d.YL := by
    intro k hk; simp at hk; rcases hk with rfl | hk
    · exact h.EL
    · exact h.fL k hk
  have hT : ∀ k ∈ d.E :: fp d.fv, k ∉ d.YT := by
    intro k hk; simp at hk; rcases hk with rfl | hk
    · exact h.ET
    · exact h.fT k hk
  have hm : fB ∈ d.E :: fp (.slice (some ⟨fB, 0, none⟩) fs.length fc) := List.mem_cons_of_mem _ (by rw [mem_fp]; simp [Value.ownBlock])
  exact ⟨h.ln.kept fun k hk => q.op.block k (h.ln.lt k hk) (fun hx => hL k hx hk), h.tl.kept fun k hk => q.op.block k (h.tl.lt k hk) (fun hx => hT k hx hk), q.op.apart hL h.ln.lt fB hm, q.op.apart hT h.tl.lt fB hm⟩

theorem Mid.close {d : LogD} {t g : Int} {gi fB fc n : Nat} {fs : List UInt8} {w w5 w6 : World} (h : IsLog d w) (q : Mid d t g gi fB fc fs w w5) (hn : fs.length ≤ n + 100) (hW : Wrote d.YL d.YT d.lB d.wL d.bL d.tB d.wT d.bT d.m d.noP d.nv (d.out ++ lineOf t fs) d.outT fs.length w5 w6) :
    ∃ d', Stepped d d' (lineOf t fs) n w w6 := by
  obtain ⟨YL', lv, lx, XL, YT', gv, ev, ex, XT, outT', h1, h2, h3, h4, h5⟩ := hW.ex
  obtain ⟨fL, fT, f1, f2⟩ := q.facts h
  obtain ⟨qE, qrow, qop, qEf⟩ := q
  generalize hfv : (Value.slice (some ⟨fB, 0, none⟩) fs.length fc : Value) = fv at *
  have hfp : ∀ k ∈ fp fv, k = fB := by intro k hk; rw [← hfv, mem_fp] at hk; simp [Value.ownBlock] at hk; exact hk.symm
  have hzlt := lt_of_heap h.hz
  have hElt := lt_of_heap qE
  have z1 : d.z ∉ d.E :: fp d.fv := by simp; exact ⟨h.zE, h.zf⟩
  have hz5 : w5.heap[d.z]? = w.heap[d.z]? := qop.block _ hzlt z1
  have zz : d.z ∉ d.E :: fp fv := fun hk => qop.apart (Z := [d.z]) (by intro k hj; simp; intro e; rw [e] at hj; exact z1 hj) (by intro k hj; simp at hj; omega) _ hk (by simp)
  have hzlt5 := Nat.lt_of_lt_of_le hzlt qop.size
  have z2 : d.z ∉ d.YL ++ d.YT := by simp; exact ⟨h.zL, h.zT⟩
  have e2 : d.E ∉ d.YL ++ d.YT := by simp; exact ⟨h.EL, h.ET⟩
  have f3 : ∀ k ∈ fp fv, k ∉ d.YL ++ d.YT := by intro k hk; rw [hfp k hk]; simp; exact ⟨f1, f2⟩
  have ap : ∀ Z : List Nat, (∀ k ∈ Z, k < w5.heap.size) → (∀ k ∈ Z, k ∉ d.YL ++ d.YT) → ∀ k ∈ Z, k ∉ YL' ++ YT' := fun Z hZ hd k hk hx => h5.apart (Z := Z) (fun j hj hjz => hd j hjz hj) hZ k hx hk
  have az := ap [d.z] (by simpa using hzlt5) (by simpa using z2) d.z (by simp)
  have aE := ap [d.E] (by simpa using hElt) (by simpa using e2) d.E (by simp)
  have af := ap (fp fv) qrow.lt f3
  simp at az aE af z2 e2 zz
  refine ⟨{ d with m := d.m + 1, YL := YL', XL := XL, YT := YT', XT := XT, lv := lv, gv := gv, ev := ev, fv := fv, lx := lx, ex := ex, fx := fs, out := d.out ++ lineOf t fs, outT := outT', x2 := .int .i64 t, x3 := .int .u8 0, x4 := .int .i64 g, x5 := .int .i64 gi, x6 := .int .i64 (-1), x7 := .int .i64 (-1), x8 := .int .i64 0 }, ?_, rfl, rfl, rfl, rfl, rfl, rfl, ?_, ?_⟩
  · refine ⟨(h5.block _ hzlt5 (by simpa using z2)).trans (hz5.trans h.hz), (h5.block _ hElt (by simpa using e2)).trans qE, h1, h2, qrow.op h5 (fun k hk hx => f3 k hx hk), h.zE, zz.2, az.1, az.2, qEf, aE.1, aE.2, fun k hk => (af k hk).1, fun k hk => (af k hk).2, h4⟩
  · show outT'.length ≤ _
    omega
  · refine Op.trans (X1 := d.z :: d.E :: (fp fv ++ (d.YL ++ d.YT))) (w1 := w5) (qop.mono ?_ ?_) (h5.mono ?_ ?_)
    · intro k hk; simp at hk; simp [LogD.foot]; rcases hk with rfl | hk <;> simp_all
    · intro k hk; simp at hk; simp [LogD.foot]; rcases hk with rfl | rfl | hk | hk | hk <;> simp_all
    · intro k hk; simp at hk; simp; rcases hk with hk | hk <;> simp_all
    · intro k hk; simp [LogD.foot] at hk; simp; rcases hk with rfl | rfl | hk | hk | hk <;> simp_all

set_option maxRecDepth 100000 in
set_option maxHeartbeats 4000000 in
theorem arrive_any {B : Nat} (d : LogD) (gi : Nat) (t g : Int) (ys : List UInt8) (w : World) (h : IsLog d w) (hB : B ≤ w.heap.size) (low : ∀ k ∈ d.foot, B ≤ k) (htab : TabB B w) (hN : NameAt B w d.nv gi ys) (hyl : ys.length ≤ 1500000)
    (t0 : -9223372036854775808 ≤ t) (t1 : t ≤ 9223372036854775807) (g0 : -9223372036854775808 ≤ g) (g1 : g ≤ 9223372036854775807) (p0 : -9223372036854775808 ≤ d.noP) (p1 : d.noP ≤ 9223372036854775807) (hol : d.out.length ≤ 100000000) (holT : d.outT.length ≤ 100000000) (hm : d.m ≤ 1000000) :
    Calls Tryd.prog 13 #[.pointer (some ⟨d.E, 0, none⟩), .int .i64 t, .int .i64 g, .int .i64 gi] w fun e w' => e = .returned (.tuple #[]) ∧ ∃ d', Stepped d d' (lineOf t (fieldsOf g ys)) ys.length w w' := by
  obtain ⟨nB, n, c, hv, hnv, hnB, hgi, hn, hcn, hy, hyB⟩ := hN.ex
  have lowf : ∀ k ∈ fp d.fv, B ≤ k := fun k hk => low k (by simp [LogD.foot, hk])
  have lowE : B ≤ d.E := low _ (by simp [LogD.foot])
  have lowL : ∀ k ∈ d.YL, B ≤ k := fun k hk => low k (by simp [LogD.foot, hk])
  have lowT : ∀ k ∈ d.YT, B ≤ k := fun k hk => low k (by simp [LogD.foot, hk])
  have hElt := lt_of_heap h.hE
  have HB := hide (begin_any (B := B) d.E _ _ _ _ _ _ _ _ _ _ _ d.fx t w h.hE ⟨h.row, hB, lowf, htab⟩)
  generalize hEE : d.E = E at *
  have HH := hide h
  have HEE := hide hEE
  have HHY := hide hy
  clear h hy
  go_enter Tryd.func13, Tryd.ntmps13
  go_wp2_with fail
  refine HB.out.mono ?_
  rintro e w1 ⟨rfl, fv0, hE1, hr0, hf0, ho1⟩
  have c4 : w1.cell? ⟨E, 4, none⟩ = some (.int .i64 0) := by rw [cell_of_heap hE1]; rfl
  have c5 : w1.cell? ⟨E, 5, none⟩ = some (.int .i64 0) := by rw [cell_of_heap hE1]; rfl
  have c9 : w1.cell? ⟨E, 9, none⟩ = some fv0 := by rw [cell_of_heap hE1]; rfl
  have f4 : w1.frozen? ⟨E, 4, none⟩ = false := frozen_of_heap hE1 4
  have f5 : w1.frozen? ⟨E, 5, none⟩ = false := frozen_of_heap hE1 5
  have HE1 := hide hE1
  have HR0 := hide hr0
  have HF0 := hide hf0
  have HO1 := hide ho1
  clear hE1 hr0 hf0 ho1
  go_wp2_with fail
  have HE2 : Hid (((w1.setCell ⟨E, 4, none⟩ (.int .i64 g)).setCell ⟨E, 5, none⟩ (.int .i64 gi)).heap[E]? = some (.cells #[.pointer (some ⟨d.lB, 0, none⟩), .pointer (some ⟨d.tB, 0, none⟩), .int .i64 t, .int .u8 0, .int .i64 g, .int .i64 gi, .int .i64 (-1), .int .i64 (-1), .int .i64 0, fv0, d.nv] 54 (0, 0))) := by
    refine hide ?_
    rw [Lib.heap_setCell_same (Lib.heap_setCell_same HE1.out _)]
    simp
  have HO2 : Hid (Op [E] w [E] ((w1.setCell ⟨E, 4, none⟩ (.int .i64 g)).setCell ⟨E, 5, none⟩ (.int .i64 gi))) := HO1.out.trans ((Op.setCell (a := ⟨E, 4, none⟩) (by simp) _).trans (Op.setCell (a := ⟨E, 5, none⟩) (by simp) _))
  generalize ((w1.setCell ⟨E, 4, none⟩ (.int .i64 g)).setCell ⟨E, 5, none⟩ (.int .i64 gi)) = w2 at *
  clear HE1 HO1 c4 c5 c9 f4 f5
  have hEf : E ∉ fp fv0 := by rw [HF0.out, ← HEE.out]; exact HH.out.Ef
  have hd0 : ∀ k ∈ [E], k ∉ fp fv0 := by intro k hk; simp at hk; subst hk; exact hEf
  have HA2 : Hid (At B w2 fv0 []) := ⟨HR0.out.op HO2.out hd0, Nat.le_trans hB HO2.out.size, by rw [HF0.out]; exact lowf, htab.op HO2.out (by simpa using lowE) hB⟩
  have HC1 := hide (appendInt_at HA2.out ⟨#[103]⟩ g g0 g1 (by decide) (by simp))
  refine HC1.out.mono ?_
  rintro e w3 ⟨v1, rfl, a1, o1⟩
  have HA3 := hide a1
  have HO3 := hide o1
  have hElt2 : E < w2.heap.size := Nat.lt_of_lt_of_le hElt HO2.out.size
  have hnw2 : nB < w2.heap.size := by have := HO2.out.size; omega
  have hnE : nB ∉ [E] := by simp; omega
  have hnf : nB ∉ fp fv0 := fun hk => by rw [HF0.out] at hk; have := lowf _ hk; omega
  have e3 : w3.heap[E]? = w2.heap[E]? := HO3.out.block E hElt2 hEf
  have hc10 : w3.cell? ⟨E, 10, none⟩ = some (.slice (some ⟨nB, 0, none⟩) n c) := (World.cell?_of_block (a := ⟨E, 10, none⟩) e3).trans (by rw [cell_of_heap HE2.out, hnv]; rfl)
  have e4 : w3.heap[nB]? = w.heap[nB]? := (HO3.out.block nB hnw2 hnf).trans (HO2.out.block nB (by omega) hnE)
  have hcn3 : w3.cell? ⟨nB, gi, none⟩ = some hv := (World.cell?_of_block (a := ⟨nB, gi, none⟩) e4).trans hcn
  have hEv1 : E ∉ fp v1 := by
    have := HO3.out.apart (Z := [E]) (by intro k hk; simp; intro e; subst e; exact hEf hk) (by intro k hk; simp at hk; omega)
    intro hk; exact this _ hk (by simp)
  have hlow1 : ∀ k ∈ fp v1, B ≤ k := HA3.out.low
  have hnv1 : nB ∉ fp v1 := fun hk => by have := hlow1 _ hk; omega
  have hyv1 : ∀ k ∈ fp v1, k ∉ fp hv := fun k hk hx => by have := hlow1 _ hk; have := hyB _ hx; omega
  have hy3 : Row w3 hv ys := (HHY.out.op HO2.out (by intro k hk hx; simp at hk; have := hyB _ hx; omega)).op HO3.out (by intro k hk hx; rw [HF0.out] at hk; have := lowf _ hk; have := hyB _ hx; omega)
  have hl3 : ([] ++ [44, 34] ++ (⟨#[103]⟩ : ByteArray).data.toList ++ [34, 58] ++ Lib.itoa g : List UInt8).length ≤ 100000 := by
    have := itoa_le g g0 g1
    simp; omega
  have HC2 := hide (appendGroup_any (B := B) E nB n c gi v1 hv _ ys w3 HA3.out hc10 hEv1 (Nat.lt_of_lt_of_le hElt2 HO3.out.size) hcn3 hnv1 (Nat.lt_of_lt_of_le hnw2 HO3.out.size) hgi hn hy3 hyv1 hl3 (by omega))
  have HNV := hide hnv
  have H3 := hide e3
  clear a1 o1 e3 e4 hc10 hcn3 hy3 hyv1 hnv1 hlow1 hl3 hnv HC1 hcn
  go_wp2_with fail
  refine HC2.out.mono ?_
  rintro e w4 ⟨v2, rfl, a2, o2⟩
  have HA4 := hide a2
  have HO4 := hide o2
  clear a2 o2
  have O24 := HO3.out.trans HO4.out
  have e24 : w4.heap[E]? = w2.heap[E]? := O24.block E hElt2 hEf
  have hE4 := e24.trans HE2.out
  have c9 : w4.cell? ⟨E, 9, none⟩ = some fv0 := by rw [cell_of_heap hE4]; rfl
  have f9 : w4.frozen? ⟨E, 9, none⟩ = false := frozen_of_heap hE4 9
  have hEv2 : E ∉ fp v2 := fun hk => O24.apart (Z := [E]) (by intro k hj; simp; intro e; rw [e] at hj; exact hEf hj) (by intro k hj; simp at hj; omega) _ hk (by simp)
  have hfe : ([] ++ [44, 34] ++ [103] ++ [34, 58] ++ Lib.itoa g ++ [44, 34, 103, 114, 111, 117, 112, 34, 58] ++ ys : List UInt8) = fieldsOf g ys := rfl
  have HA5 : Hid (At B w4 v2 (fieldsOf g ys)) := HA4.out
  have hfl : (fieldsOf g ys).length ≤ ys.length + 100 := by have := itoa_le g g0 g1; simp [fieldsOf]; omega
  have hf2 : 2 ≤ (fieldsOf g ys).length := by simp [fieldsOf]
  generalize hfs : fieldsOf g ys = fs at *
  have HFS := hide hfs
  clear hfe HA4 hfs
  rcases HA5.out.row.form with ⟨_, e⟩ | ⟨fB, fc, rfl, _⟩
  · rw [e] at hf2; simp at hf2
  have HQ : Hid (Mid d t g gi fB fc fs w (w4.setCell ⟨E, 9, none⟩ (.slice (some ⟨fB, 0, none⟩) fs.length fc))) := by
    refine hide ⟨?_, ?_, ?_, ?_⟩
    · rw [HEE.out, Lib.heap_setCell_same hE4]; simp [logCells]
    · exact HA5.out.row.op (Op.setCell (X := [E]) (a := ⟨E, 9, none⟩) (by simp) _) (by intro k hk; simp at hk; subst hk; exact hEv2)
    · rw [HEE.out, ← HF0.out]
      exact (HO2.out.left (fp fv0)).trans ((O24.right [E]).trans (Op.setCell (a := ⟨E, 9, none⟩) (by simp) _))
    · rw [HEE.out]; exact hEv2
  have HBz : Hid (B ≤ (w4.setCell ⟨E, 9, none⟩ (.slice (some ⟨fB, 0, none⟩) fs.length fc)).heap.size) := Nat.le_trans HA5.out.hB (Op.setCell (X := [E]) (w := w4) (a := ⟨E, 9, none⟩) (by simp) _).size
  have HTb : Hid (TabB B (w4.setCell ⟨E, 9, none⟩ (.slice (some ⟨fB, 0, none⟩) fs.length fc))) := HA5.out.tab.op (Op.setCell (X := [E]) (w := w4) (a := ⟨E, 9, none⟩) (by simp) _) (by simpa using lowE) HA5.out.hB
  clear O24 e24 hE4 HO3 HO4 HO2 HE2 HA2 HA3 HC2 H3
  go_wp2_with fail
  generalize (w4.setCell ⟨E, 9, none⟩ (.slice (some ⟨fB, 0, none⟩) fs.length fc)) = w5 at *
  obtain ⟨q1, q2, q3, q4⟩ := HQ.out.facts HH.out
  have HC := hide (write_any (B := B) d.E d.lB d.tB d.wL d.bL d.wT d.bT fB fc d.m d.YL d.XL d.YT d.XT d.lv d.gv d.ev d.nv d.lx d.ex fs d.out d.outT d.noP t g gi w5 HQ.out.hE q1 q2 HQ.out.row HH.out.EL HH.out.ET q3 q4 HH.out.LT HBz.out lowL lowT HTb.out t0 t1 p0 p1 (by omega) hf2 hol holT hm (by omega) (by omega))
  rw [HEE.out] at HC
  clear q1 q2 q3 q4
  refine HC.out.mono ?_
  rintro e w6 ⟨rfl, hW⟩
  have HW := hide hW
  clear hW
  go_wp2
  go_end0
  rw [HFS.out]
  exact ⟨rfl, HQ.out.close HH.out (by omega) HW.out⟩

set_option maxRecDepth 100000 in
set_option maxHeartbeats 2000000 in
theorem zzarrive_any {B : Nat} (d : LogD) (gi : Nat) (t g : Int) (ys : List UInt8) (w : World) (h : IsLog d w) (hB : B ≤ w.heap.size) (low : ∀ k ∈ d.foot, B ≤ k) (htab : TabB B w) (hN : NameAt B w d.nv gi ys) (hyl : ys.length ≤ 1500000)
    (t0 : -9223372036854775808 ≤ t) (t1 : t ≤ 9223372036854775807) (g0 : -9223372036854775808 ≤ g) (g1 : g ≤ 9223372036854775807) (p0 : -9223372036854775808 ≤ d.noP) (p1 : d.noP ≤ 9223372036854775807) (hol : d.out.length ≤ 100000000) (holT : d.outT.length ≤ 100000000) (hm : d.m ≤ 1000000) :
    Calls Tryd.prog 8 #[.pointer (some ⟨d.z, 0, none⟩), .int .i64 t, .int .i64 g, .int .i64 gi] w fun e w' => e = .returned (.tuple #[]) ∧ ∃ d', Stepped d d' (lineOf t (fieldsOf g ys)) ys.length w w' := by
  have HC := hide (arrive_any d gi t g ys w h hB low htab hN hyl t0 t1 g0 g1 p0 p1 hol holT hm)
  have c0 : w.cell? ⟨d.z, 0, none⟩ = some (.pointer (some ⟨d.E, 0, none⟩)) := by rw [cell_of_heap h.hz]; rfl
  clear h hB low htab hN
  go_enter Tryd.func8, Tryd.ntmps8
  go_wp2_with fail
  refine HC.out.mono ?_
  rintro e w6 ⟨rfl, hW⟩
  have HW := hide hW
  clear hW
  go_wp2
  go_end0
  exact ⟨rfl, HW.out⟩
end Go.Proofs.Qxb6614809aDoor
