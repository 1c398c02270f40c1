/-
  The law's walk: both indexes inside.
-/
import Derived.Test.Qxb6614809aDoorLaw2
namespace Go.Proofs.Qxb6614809aDoor
open Go.RowKit
set_option linter.unusedVariables false

set_option maxRecDepth 100000 in
set_option maxHeartbeats 8000000 in
theorem law_in (b off len cap : Nat) (A : Nat → Option Addr) (L C : Nat → Nat) (Y : Nat → List UInt8) (p t1 g1 t2 g2 : Int) (n1 n2 : Nat) (w : World) (h : Names w b off len A L C Y) (hm : len ≤ 9223372036854775807) (hT : TabB w.heap.size w) (hn1 : n1 < len) (hn2 : n2 < len)
    (p0 : -9223372036854775808 ≤ p) (p1 : p ≤ 9223372036854775807) (t10 : -9223372036854775808 ≤ t1) (t11 : t1 ≤ 9223372036854775807) (g10 : -9223372036854775808 ≤ g1) (g11 : g1 ≤ 9223372036854775807) (t20 : -9223372036854775808 ≤ t2) (t21 : t2 ≤ 9223372036854775807) (g20 : -9223372036854775808 ≤ g2) (g21 : g2 ≤ 9223372036854775807) :
    Calls Tryd.prog 3 #[.slice (some ⟨b, off, none⟩) len cap, .int .i64 p, .int .i64 t1, .int .i64 g1, .int .i64 n1, .int .i64 t2, .int .i64 g2, .int .i64 n2] w fun e w' => e = .returned (.bool true) ∧ Below w.heap.size w w' := by
  have H := hide h
  have HT := hide hT
  have c1 : decide ((n1 : Int) < 0) = false := by simp
  have c2 : decide ((n1 : Int) ≥ (len : Int)) = false := by simp; omega
  have c3 : decide ((n2 : Int) < 0) = false := by simp
  have c4 : decide ((n2 : Int) ≥ (len : Int)) = false := by simp; omega
  clear h hT
  go_enter Tryd.func3, Tryd.ntmps3
  go_wp2_with fail
  refine (bytes_any' b off len cap A L C Y _ _ _ _ _ _ _ w H.out hm).mono ?_
  rintro e w1 ⟨ha, rfl⟩
  obtain ⟨r, rfl, hr⟩ := ha.ex
  cases r
  · clear c1 c2 c3 c4
    go_wp2
    go_ret
    exact ⟨rfl, Below.refl _ _⟩
  have HR := hide (hr rfl)
  clear hr ha
  go_wp2_with fail
  refine (fit_any b off len cap A L C Y _ H.out HR.out hm).mono ?_
  rintro e w2 ⟨ha, rfl⟩
  obtain ⟨r, rfl, hr⟩ := ha.ex
  cases r
  · clear c1 c2 c3 c4 hr ha
    go_wp2
    go_ret
    exact ⟨rfl, Below.refl _ _⟩
  have hlen := hr rfl
  clear hr ha
  have HC := hide (clone_any b off len cap A L C Y w2 H.out HR.out hlen)
  go_wp2_with fail
  refine HC.out.mono ?_
  rintro e w3 ⟨rfl, hcl⟩
  obtain ⟨hst, hb⟩ := St.of_clone HT.out hcl hlen (fun gi hg => by rw [H.out.ylen gi hg]; exact HR.out gi hg)
  have HB3 := hide hb
  generalize hnB : w2.heap.size = nB at *
  clear HC hcl hb
  have S3 := hide hst
  clear hst
  have L1 := line_len t1 g1 t10 t11 g10 g11 (Y n1)
  have L2 := line_len t2 g2 t20 t21 g20 g21 (Y n2)
  have y1 := S3.out.yl n1 hn1
  have y2 := S3.out.yl n2 hn2
  have N1 := hide (law_new S3.out p p0 p1)
  go_wp2_with fail
  refine N1.out.mono ?_
  rintro e w4 ⟨z, d4, rfl, q1, q2, q3⟩
  have K4 := hide q1; have S4 := hide q2; have B4 := hide q3
  clear q1 q2 q3 N1
  have N2 := hide (law_arrive S4.out K4.out (Nat.le_refl _) n1 hn1 t1 g1 t10 t11 g10 g11 (by simp) (by omega))
  go_wp2_with fail
  refine N2.out.mono ?_
  rintro e w5 ⟨d5, rfl, q1, q2, q3⟩
  have K5 := hide q1; have S5 := hide q2; have B5 := hide q3
  clear q1 q2 q3 N2
  have N3 := hide (law_arrive S5.out K5.out (Nat.le_refl _) n2 hn2 t2 g2 t20 t21 g20 g21 (by simp; omega) (by omega))
  go_wp2_with fail
  refine N3.out.mono ?_
  rintro e w6 ⟨d6, rfl, q1, q2, q3⟩
  have K6 := hide q1; have S6 := hide q2; have B6 := hide q3
  clear q1 q2 q3 N3
  have N4 := hide (law_lines S6.out K6.out (Nat.le_refl _) (by simp; omega))
  go_wp2_with fail
  refine N4.out.mono ?_
  rintro e w7 ⟨va, rfl, q1, q2, q3⟩
  have RA := hide q1; have S7 := hide q2; have B7 := hide q3
  clear q1 q2 q3 N4
  have N5 := hide (law_new S7.out p p0 p1)
  go_wp2_with fail
  refine N5.out.mono ?_
  rintro e w8 ⟨z2, d8, rfl, q1, q2, q3⟩
  have K8 := hide q1; have S8 := hide q2; have B8 := hide q3
  clear q1 q2 q3 N5
  have hB7 : w3.heap.size ≤ w7.heap.size := S7.out.hB
  have N6 := hide (law_arrive S8.out K8.out hB7 n2 hn2 t2 g2 t20 t21 g20 g21 (by simp) (by omega))
  go_wp2_with fail
  refine N6.out.mono ?_
  rintro e w9 ⟨d9, rfl, q1, q2, q3⟩
  have K9 := hide q1; have S9 := hide q2; have B9 := hide q3
  clear q1 q2 q3 N6
  have N7 := hide (law_lines S9.out K9.out hB7 (by simp; omega))
  go_wp2_with fail
  refine N7.out.mono ?_
  rintro e w10 ⟨vb, rfl, q1, q2, q3⟩
  have RB := hide q1; have S10 := hide q2; have B10 := hide q3
  clear q1 q2 q3 N7
  obtain ⟨nB', n', c', hv1, e1, _, _, _, h5, _⟩ := (S10.out.nm n1 hn1).ex
  cases e1
  have N8 := hide (law_line S10.out n1 hn1 t1 g1 t10 t11 g10 g11 hv1 h5)
  go_wp2_with fail
  refine N8.out.mono ?_
  rintro e w11 ⟨u1, rfl, q1, q4, q2, q3⟩
  have R1 := hide q1; have O11 := hide q4; have S11 := hide q2; have B11 := hide q3
  clear q1 q2 q3 q4 N8 h5
  obtain ⟨nB', n', c', hv2, e1, _, _, _, h5, _⟩ := (S11.out.nm n2 hn2).ex
  cases e1
  have N9 := hide (law_line S11.out n2 hn2 t2 g2 t20 t21 g20 g21 hv2 h5)
  go_wp2_with fail
  refine N9.out.mono ?_
  rintro e w12 ⟨u2, rfl, q1, q4, q2, q3⟩
  have R2 := hide q1; have O12 := hide q4; have S12 := hide q2; have B12 := hide q3
  clear q1 q2 q3 q4 N9 h5
  have s10 : w7.heap.size ≤ w10.heap.size := (B8.out.trans (B9.out.trans B10.out)).size
  have s11 : w10.heap.size ≤ w11.heap.size := B11.out.size
  have s3 : nB ≤ w3.heap.size := by rw [← hnB]; exact HB3.out.size
  have low1 : ∀ k ∈ fp u1, w10.heap.size ≤ k := O11.out.low (by simp) (Nat.le_refl _)
  have low2 : ∀ k ∈ fp u2, w11.heap.size ≤ k := O12.out.low (by simp) (Nat.le_refl _)
  have lt1 := R1.out.lt
  have R1' := hide (R1.out.op O12.out (by simp))
  obtain ⟨v3, w13, A13, r13, o13⟩ := app_row w12 u1 u2 _ _ R1'.out R2.out (by omega)
  have HA := hide A13
  have B13 : Hid (Below w10.heap.size w10 w13) := hide (B11.out.trans ((B12.out.mono s11).trans (o13.below low1 (Nat.le_trans s11 B12.out.size))))
  have B13' : Hid (Below w7.heap.size w7 w13) := hide (B8.out.trans (B9.out.trans (B10.out.trans (B13.out.mono s10))))
  have BZ : Hid (Below nB w2 w13) := hide (HB3.out.trans (((B4.out.trans (B5.out.trans (B6.out.trans B7.out))).mono s3).trans (B13'.out.mono (Nat.le_trans s3 hB7))))
  have EA := hide (eqBytes_any va v3 _ w13 (RA.out.below B13'.out RA.out.lt) (by simpa using r13) (by simp; omega) (by simp; omega))
  have EB : Hid (∀ n, Calls Tryd.prog 11 #[vb, u2] (w13.drewN n) fun e w' => e = .returned (.bool true) ∧ ∃ m, w' = (w13.drewN n).drewN m) := hide (fun n => eqBytes_any vb u2 _ (w13.drewN n) ((RB.out.below B13.out RB.out.lt).kept (fun _ _ => rfl)) (by simpa using ((R2.out.op o13 (fun k hk hx => by have := lt1 k hk; have := low2 k hx; omega)).kept (w' := w13.drewN n) (fun _ _ => rfl))) (by simp; omega) (by simp; omega))
  clear A13 r13 o13 low1 low2 lt1 s10 s11 s3 hB7
  have HNB := hide hnB
  clear hnB
  go_wp2_with (at_builtin; refine wpL_app rfl _ _ 29 29 rfl _ _ rfl rfl HA.out ?_; refine Hid.out ?_)
  refine hide ?_
  go_wp2_with fail
  refine EA.out.mono ?_
  rintro e w14 ⟨rfl, m1, rfl⟩
  go_wp2_with fail
  refine (EB.out m1).mono ?_
  rintro e w15 ⟨rfl, m2, rfl⟩
  go_wp2
  go_ret
  refine ⟨rfl, ?_⟩
  rw [HNB.out]
  exact ⟨BZ.out.os, BZ.out.tape, BZ.out.output, BZ.out.size, BZ.out.block⟩
end Go.Proofs.Qxb6614809aDoor
