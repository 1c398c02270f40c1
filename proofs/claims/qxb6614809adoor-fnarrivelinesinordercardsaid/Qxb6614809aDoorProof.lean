/-
  The row proved; the card.
-/
import Derived.Test.Qxb6614809aDoorRow
import Derived.Test.Qxb6614809aDoorTie
import Derived.Test.Qxb6614809aDoorCards
import Derived.SevenTiedAt
namespace Go.Proofs.Qxb6614809aDoor
open Go.ChangeShapes Go.WideShapes Go.ChangeAt Go.RowKit
set_option linter.unusedVariables false

/-- The walk, whatever the names. -/
theorem law_any {H : Type} {enc : TypeId × Value → H} {W : World} {v : Value} {d : DataW H} {ps : List MemPlace} (hv : ∃ a l c, v = .slice a l c) (h : DataW.Trod enc Tryd.prog W 0 (fun _ => true) true 22 v d ps) (hT : TabB W.heap.size W) (p t1 g1 i1 t2 g2 i2 : Int)
    (wp : (Lit.int .i64 p).wf = true) (wt1 : (Lit.int .i64 t1).wf = true) (wg1 : (Lit.int .i64 g1).wf = true) (wi1 : (Lit.int .i64 i1).wf = true) (wt2 : (Lit.int .i64 t2).wf = true) (wg2 : (Lit.int .i64 g2).wf = true) (wi2 : (Lit.int .i64 i2).wf = true) :
    Calls Tryd.prog 3 #[v, .int .i64 p, .int .i64 t1, .int .i64 g1, .int .i64 i1, .int .i64 t2, .int .i64 g2, .int .i64 i2] W fun e w' => e = .returned (.bool true) ∧ Below W.heap.size W w' := by
  obtain ⟨p0, p1⟩ := wf_i64 wp
  obtain ⟨t10, t11⟩ := wf_i64 wt1
  obtain ⟨g10, g11⟩ := wf_i64 wg1
  obtain ⟨t20, t21⟩ := wf_i64 wt2
  obtain ⟨g20, g21⟩ := wf_i64 wg2
  rcases open_names hv h with ⟨a, cap, rfl⟩ | ⟨b, off, len, cap, A, L, C, Y, rfl, hm, hN⟩
  · exact law_empty a cap p t1 g1 i1 t2 g2 i2 W
  · by_cases hi : i1 < 0 ∨ (len : Int) ≤ i1 ∨ i2 < 0 ∨ (len : Int) ≤ i2
    · exact law_out b off len cap A L C Y p t1 g1 i1 t2 g2 i2 W hN hm hi
    · obtain ⟨n1, rfl⟩ : ∃ n1 : Nat, i1 = n1 := ⟨i1.toNat, by omega⟩
      obtain ⟨n2, rfl⟩ : ∃ n2 : Nat, i2 = n2 := ⟨i2.toNat, by omega⟩
      exact law_in b off len cap A L C Y p t1 g1 t2 g2 n1 n2 W hN hm hT (by omega) (by omega) p0 p1 t10 t11 g10 g11 t20 t21 g20 g21

set_option maxRecDepth 100000 in
theorem lifted (os : Os) (started : os.Started) (H : Type) (enc : TypeId × Value → H) :
    ReturnsInHanded {} Tryd.checked os 3 .any (fun w args => (Rows.fnArriveLinesInOrderSpec.pre enc Tryd.prog Tryd.f3 [] false w args ∧ laidMetH Tryd.prog Rows.fnArriveLinesInOrderRow.laid w) ∧ sizedMet enc Tryd.prog Tryd.f3 (OpenSpec.ofChange Rows.fnArriveLinesInOrderSpec) false w args)
      (Rows.fnArriveLinesInOrderSpec.post enc Tryd.prog Tryd.f3 false true false false) := by
  refine returnsInHanded_of_change_and (C := Tryd.checked) (X := fun w _ => laidMetH Tryd.prog Rows.fnArriveLinesInOrderRow.laid w) (fun _ _ _ hh h => h.of_heap hh) own started (by kernel_rfl) Tryd.func3
    (ChangeSpec.witness_shaped (enc := enc) (C := Tryd.checked) (os := os) (X := fun w _ => laidMetH Tryd.prog Rows.fnArriveLinesInOrderRow.laid w) false (World.doorLaid Tryd.prog 400 os) #[.slice none 0 0, .int .i64 0, .int .i64 0, .int .i64 0, .int .i64 0, .int .i64 0, .int .i64 0, .int .i64 0] 8 rfl (World.shaped_of_RefB (by kernel_rfl) (by kernel_rfl)) (by kernel_rfl) (by kernel_rfl) (by kernel_rfl) (door_met os _)) ?_
  intro W base args ds gs before hval0 hW _ _ hL _
  have hval : ∀ (j : Nat) t v, Tryd.f3.params[j]? = some t → args[j]? = some v → Value.okWide Tryd.prog W .any base t v := hval0
  have hW' := hW
  have hlt0 := hW.lt
  obtain ⟨p, q, hA0, hV0, rfl, hfz, hnd⟩ := hW
  have hA : DataW.TrodAll enc Tryd.prog W 0 (fun _ => true) true Tryd.f3.params.toList args.toList ds p := hA0
  have hV : DataW.TrodVars enc Tryd.prog W (fun _ => true) [nNames] gs q := hV0
  rw [Tryd.params3] at hA hval
  obtain ⟨v0, vs0, d0, ds0, p0, q0, hargs, rfl, rfl, h0, r0⟩ := trodAll_cons hA
  obtain ⟨v1, vs1, d1, ds1, p1, q1, rfl, rfl, rfl, h1, r1⟩ := trodAll_cons r0
  obtain ⟨v2, vs2, d2, ds2, p2, q2, rfl, rfl, rfl, h2, r2⟩ := trodAll_cons r1
  obtain ⟨v3, vs3, d3, ds3, p3, q3, rfl, rfl, rfl, h3, r3⟩ := trodAll_cons r2
  obtain ⟨v4, vs4, d4, ds4, p4, q4, rfl, rfl, rfl, h4, r4⟩ := trodAll_cons r3
  obtain ⟨v5, vs5, d5, ds5, p5, q5, rfl, rfl, rfl, h5, r5⟩ := trodAll_cons r4
  obtain ⟨v6, vs6, d6, ds6, p6, q6, rfl, rfl, rfl, h6, r6⟩ := trodAll_cons r5
  obtain ⟨v7, vs7, d7, ds7, p7, q7, rfl, rfl, rfl, h7, r7⟩ := trodAll_cons r6
  obtain ⟨rfl, rfl, rfl⟩ := trodAll_nil r7
  obtain rfl : args = #[v0, v1, v2, v3, v4, v5, v6, v7] := by cases args; simp_all
  obtain ⟨a1, rfl, rfl, rfl, w1⟩ := open_int Tryd.underlying3 (hval 1 3 v1 rfl rfl) h1
  obtain ⟨a2, rfl, rfl, rfl, w2⟩ := open_int Tryd.underlying2 (hval 2 2 v2 rfl rfl) h2
  obtain ⟨a3, rfl, rfl, rfl, w3⟩ := open_int Tryd.underlying3 (hval 3 3 v3 rfl rfl) h3
  obtain ⟨a4, rfl, rfl, rfl, w4⟩ := open_int Tryd.underlying3 (hval 4 3 v4 rfl rfl) h4
  obtain ⟨a5, rfl, rfl, rfl, w5⟩ := open_int Tryd.underlying2 (hval 5 2 v5 rfl rfl) h5
  obtain ⟨a6, rfl, rfl, rfl, w6⟩ := open_int Tryd.underlying3 (hval 6 3 v6 rfl rfl) h6
  obtain ⟨a7, rfl, rfl, rfl, w7⟩ := open_int Tryd.underlying3 (hval 7 3 v7 rfl rfl) h7
  have hsl : ∃ a l c, v0 = .slice a l c := by
    obtain ⟨a, l, c, rfl⟩ := okWide_slice Tryd.underlying22 (hval 0 22 v0 rfl rfl)
    exact ⟨a, l, c, rfl⟩
  have hTab := of_laid hL
  obtain ⟨gn, tn, csn, fueln, dn, pn, rfl, hgn, _⟩ := trodVars_one hV
  clear hA0 hval0
  refine (law_any hsl h0 hTab a1 a2 a3 a4 a5 a6 a7 w1 w2 w3 w4 w5 w6 w7).mono fun e W' ⟨he, hb⟩ => ?_
  subst he
  have hvars : DataW.TrodVars enc Tryd.prog W' (fun b => decide (b < W.heap.size)) [nNames] [dn] q := Below.trodVars laidOut hb (by kernel_rfl) hV
  have harg0 : DataW.Trod enc Tryd.prog W' 0 (fun b => decide (b < W.heap.size)) true 22 v0 d0 p0 := Below.trod laidOut (by kernel_rfl) (of_decide_eq_true (by kernel_rfl)) h0 hb (fun x hx => hlt0 x (by simp [hx]))
  exact ⟨_, rfl, _, _, _, [], _, q, hW', trodAll_cons_mk (shut_bool Tryd.underlying4 _) trodAll_mk0,
    trodAll_cons_mk harg0 (trodAll_cons_mk (shut_int Tryd.underlying3 w1) (trodAll_cons_mk (shut_int Tryd.underlying2 w2) (trodAll_cons_mk (shut_int Tryd.underlying3 w3) (trodAll_cons_mk (shut_int Tryd.underlying3 w4) (trodAll_cons_mk (shut_int Tryd.underlying2 w5) (trodAll_cons_mk (shut_int Tryd.underlying3 w6) (trodAll_cons_mk (shut_int Tryd.underlying3 w7) trodAll_mk0))))))),
    hvars, hb.frame _, fun h => by cases h⟩

theorem over : Rows.FnArriveLinesInOrderSaid :=
  OpenClaim.holds_of_wide 3 Tryd.f3 rfl rfl rfl rfl rfl rfl rfl ⟨rfl, rfl, rfl, rfl, rfl⟩ rfl rfl rfl rfl rfl (by kernel_rfl) Tryd.func3 (by kernel_rfl)
    (of_decide_eq_true (by kernel_rfl)) (by unfold Func.isWrapper; first | (rw [if_pos (by decide +kernel)]; kernel_rfl) | (rw [if_neg (by decide +kernel)]; exact ⟨rfl, rfl⟩))
    (fun os started H enc _ => lifted os started H enc)

/-- THE TIED CARD. -/
theorem proved : Rows.FnArriveLinesInOrderCardSaid :=
  Claim7.holds_tied_plain_at .later [] [.data, .data, .data, .sentinel, .data] true (true, "8bfd8b71c3328f7f406960f1637dbcd10f5369c6011e91a7db5fbc937ccba5e0") true
    over (fun _ h => by cases h) (by kernel_rfl) (fun _ h => by cases h) fnArriveLinesInOrder_row_tie rfl ⟨rfl, rfl⟩ (by kernel_rfl) rfl
    (fun f fn hf hfn => by
      obtain rfl : f = 3 := Option.some.inj ((show Tryd.prog.funcNamed Rows.fnArriveLinesInOrderRow.func = some 3 by kernel_rfl).symm.trans hf) |>.symm
      obtain rfl : fn = Tryd.f3 := (Option.some.inj (Tryd.func3.symm.trans hfn)).symm
      exact ⟨by kernel_rfl, fun j t ht => by
        rw [Tryd.params3] at ht
        have h3 : t = 22 ∨ t = 3 ∨ t = 2 := by
          rcases j with _ | _ | _ | _ | _ | _ | _ | _ | j
          all_goals simp at ht
          all_goals (subst ht; first | exact .inl rfl | exact .inr (.inl rfl) | exact .inr (.inr rfl))
        rcases h3 with rfl | rfl | rfl
        · exact (show Tryd.prog.wantsStandIn 22 = false by kernel_rfl)
        · exact (show Tryd.prog.wantsStandIn 3 = false by kernel_rfl)
        · exact (show Tryd.prog.wantsStandIn 2 = false by kernel_rfl)⟩)
    (by kernel_rfl)
#print axioms proved
end Go.Proofs.Qxb6614809aDoor
