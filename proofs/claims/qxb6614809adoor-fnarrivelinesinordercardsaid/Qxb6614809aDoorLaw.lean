/-
  The law.
-/
import Derived.Test.Qxb6614809aDoorClone
namespace Go.Proofs.Qxb6614809aDoor
open Go.RowKit
set_option linter.unusedVariables false

theorem Row.below {B : Nat} {w w' : World} {v : Value} {xs : List UInt8} (h : Row w v xs) (hb : Below B w w') (hlt : ∀ k ∈ fp v, k < B) : Row w' v xs := h.kept fun k hk => hb.block k (hlt k hk)

theorem NameAt.below {B : Nat} {w w' : World} {nv : Value} {gi : Nat} {ys : List UInt8} (h : NameAt B w nv gi ys) (hb : Below B w w') : NameAt B w' nv gi ys := by
  obtain ⟨nB, n, c, hv, h1, h2, h3, h4, h5, h6, h7⟩ := h.ex
  exact ⟨nB, n, c, hv, h1, h2, h3, h4, (hb.cell (p := ⟨nB, gi, none⟩) h2).trans h5, h6.below hb h7, h7⟩

/-- What every step of the law leans on. -/
structure St (B nB len : Nat) (Y : Nat → List UInt8) (W : World) : Prop where
  hB : B ≤ W.heap.size
  tab : TabB B W
  nm : ∀ gi, gi < len → NameAt B W (.slice (some ⟨nB, 0, none⟩) len len) gi (Y gi)
  yl : ∀ gi, gi < len → (Y gi).length ≤ 1048576
theorem St.below {B nB len : Nat} {Y : Nat → List UInt8} {W W' : World} (h : St B nB len Y W) (hb : Below B W W') : St B nB len Y W' :=
  ⟨Nat.le_trans h.hB hb.size, h.tab.on hb, fun gi hg => (h.nm gi hg).below hb, h.yl⟩

theorem St.of_clone {w w1 : World} {len : Nat} {Y : Nat → List UInt8} (hT : TabB w.heap.size w) (h : Cl w w.heap.size len Y len w1) (hm : len ≤ 4096) (hy : ∀ gi, gi < len → (Y gi).length ≤ 1048576) : St w1.heap.size w.heap.size len Y w1 ∧ Below w.heap.size w w1 := by
  obtain ⟨cur, h1, h2, h3, h4, h5, h6⟩ := h.ex
  have hb : Below w.heap.size w w1 := h5.below (by simp) (Nat.le_refl _)
  refine ⟨⟨Nat.le_refl _, fun w' h' => (hT.on hb) w' (h'.mono hb.size), fun gi hg => ?_, hy⟩, hb⟩
  obtain ⟨hv, q1, q2, q3⟩ := h3 gi hg
  exact ⟨_, len, len, hv, rfl, lt_of_heap h1, hg, by omega, by rw [cell_of_heap h1]; exact q1, q2, q2.lt⟩

/-- A log in hand: from block M on. -/
structure Lg (M nB len : Nat) (d : LogD) (W : World) (out : List UInt8) (z m : Nat) : Prop where
  log : IsLog d W
  low : ∀ k ∈ d.foot, M ≤ k
  hM : M ≤ W.heap.size
  nv : d.nv = .slice (some ⟨nB, 0, none⟩) len len
  p0 : -9223372036854775808 ≤ d.noP
  p1 : d.noP ≤ 9223372036854775807
  hout : d.out = out
  hz : d.z = z
  hm : d.m = m
  houtT : d.outT.length ≤ m * 1100000

theorem law_new {B nB len : Nat} {Y : Nat → List UInt8} {W : World} (h : St B nB len Y W) (p : Int) (p0 : -9223372036854775808 ≤ p) (p1 : p ≤ 9223372036854775807) :
    Calls Tryd.prog 7 #[.slice (some ⟨nB, 0, none⟩) len len, .int .i64 p] W fun e W' => ∃ z d, e = .returned (.pointer (some ⟨z, 0, none⟩)) ∧ Lg W.heap.size nB len d W' [] z 0 ∧ St B nB len Y W' ∧ Below W.heap.size W W' := by
  refine (newLog_any nB len len p W).mono ?_
  rintro e W' ⟨d, rfl, h1, h2, h3, h4, h5, h6, h7⟩
  have hb : Below W.heap.size W W' := h7.below (by simp) (Nat.le_refl _)
  exact ⟨d.z, d, rfl, ⟨h1, h7.low (by simp) (Nat.le_refl _), h7.size, h2, by rw [h3]; exact p0, by rw [h3]; exact p1, h5, rfl, h4, by rw [h6]; simp⟩, h.below (hb.mono h.hB), hb⟩

theorem law_arrive {B M nB len m z : Nat} {Y : Nat → List UInt8} {W : World} {d : LogD} {out : List UInt8} (h : St B nB len Y W) (hl : Lg M nB len d W out z m) (hBM : B ≤ M) (gi : Nat) (hg : gi < len) (t g : Int) (t0 : -9223372036854775808 ≤ t) (t1 : t ≤ 9223372036854775807) (g0 : -9223372036854775808 ≤ g) (g1 : g ≤ 9223372036854775807) (ho : out.length ≤ 2000000) (hm : m ≤ 10) :
    Calls Tryd.prog 8 #[.pointer (some ⟨z, 0, none⟩), .int .i64 t, .int .i64 g, .int .i64 gi] W fun e W' => ∃ d', e = .returned (.tuple #[]) ∧ Lg M nB len d' W' (out ++ lineOf t (fieldsOf g (Y gi))) z (m + 1) ∧ St B nB len Y W' ∧ Below M W W' := by
  have hyl := h.yl gi hg
  have hoT := hl.houtT
  have hc := zzarrive_any (B := B) d gi t g (Y gi) W hl.log h.hB (fun k hk => Nat.le_trans hBM (hl.low k hk)) h.tab (by rw [hl.nv]; exact h.nm gi hg) (by omega) t0 t1 g0 g1 hl.p0 hl.p1 (by rw [hl.hout]; omega) (by omega) (by rw [hl.hm]; omega)
  rw [hl.hz] at hc
  refine hc.mono ?_
  rintro e W' ⟨rfl, d', s⟩
  have hb : Below M W W' := s.op.below hl.low hl.hM
  have hx := s.outT
  exact ⟨d', rfl, ⟨s.log, s.op.low hl.low hl.hM, Nat.le_trans hl.hM hb.size, s.nv.trans hl.nv, by rw [s.noP]; exact hl.p0, by rw [s.noP]; exact hl.p1, by rw [s.out, hl.hout], s.z.trans hl.hz, by rw [s.m, hl.hm], by omega⟩, h.below (hb.mono hBM), hb⟩

theorem law_lines {B M nB len m z : Nat} {Y : Nat → List UInt8} {W : World} {d : LogD} {out : List UInt8} (h : St B nB len Y W) (hl : Lg M nB len d W out z m) (hBM : B ≤ M) (ho : out.length ≤ 4000000) :
    Calls Tryd.prog 9 #[.pointer (some ⟨z, 0, none⟩)] W fun e W' => ∃ v, e = .returned v ∧ Row W' v out ∧ St B nB len Y W' ∧ Below M W W' := by
  have hc := zzlines_any d W hl.log (by rw [hl.hout]; omega)
  rw [hl.hz, hl.hout] at hc
  refine hc.mono ?_
  rintro e W' ⟨v, rfl, h1, h2, X', h3⟩
  have hb : Below M W W' := h3.below hl.low hl.hM
  exact ⟨v, rfl, h1, h.below (hb.mono hBM), hb⟩

theorem law_line {B nB len : Nat} {Y : Nat → List UInt8} {W : World} (h : St B nB len Y W) (gi : Nat) (hg : gi < len) (t g : Int) (t0 : -9223372036854775808 ≤ t) (t1 : t ≤ 9223372036854775807) (g0 : -9223372036854775808 ≤ g) (g1 : g ≤ 9223372036854775807) (hv : Value) (hc : W.cell? ⟨nB, gi, none⟩ = some hv) :
    Calls Tryd.prog 10 #[.int .i64 t, .int .i64 g, hv] W fun e W' => ∃ v, e = .returned v ∧ Row W' v (lineOf t (fieldsOf g (Y gi))) ∧ Op [] W (fp v) W' ∧ St B nB len Y W' ∧ Below W.heap.size W W' := by
  obtain ⟨nB', n', c', hv', e1, h2, h3, h4, h5, h6, h7⟩ := (h.nm gi hg).ex
  cases e1
  have : hv = hv' := by rw [hc] at h5; exact Option.some.inj h5
  subst this
  have hyl := h.yl gi hg
  refine (arriveLine_any t g hv (Y gi) W h6 (by omega) t0 t1 g0 g1).mono ?_
  rintro e W' ⟨v, rfl, q1, q2⟩
  have hb : Below W.heap.size W W' := q2.below (by simp) (Nat.le_refl _)
  exact ⟨v, rfl, q1, q2, h.below (hb.mono h.hB), hb⟩

theorem line_len (t g : Int) (t0 : -9223372036854775808 ≤ t) (t1 : t ≤ 9223372036854775807) (g0 : -9223372036854775808 ≤ g) (g1 : g ≤ 9223372036854775807) (ys : List UInt8) : 1 ≤ (lineOf t (fieldsOf g ys)).length ∧ (lineOf t (fieldsOf g ys)).length ≤ ys.length + 200 := by
  have := itoa_le t t0 t1
  have := itoa_le g g0 g1
  simp [lineOf, fieldsOf]
  omega
end Go.Proofs.Qxb6614809aDoor
