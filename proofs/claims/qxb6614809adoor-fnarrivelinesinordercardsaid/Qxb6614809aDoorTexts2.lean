/-
  More functions that append a piece of text: appendThread, appendMicroseconds, timeline.begin.
-/
import Derived.Test.Qxb6614809aDoorTexts
namespace Go.Proofs.Qxb6614809aDoor
open Go.RowKit
set_option linter.unusedVariables false

/-- 'v[:0]'. -/
theorem At.trunc {B : Nat} {w : World} {v : Value} {xs : List UInt8} (h : At B w v xs) :
    ∃ v0, (∀ W, (Instr.slice 29 v none (some (.int .i64 0)) none).run Tryd.prog W = .ok v0 W) ∧ At B w v0 [] ∧ fp v0 = fp v := by
  rcases h.row.2 with ⟨rfl, hn⟩ | ⟨g, cap, cur, rfl, hb, hg, hnc, hcm, hcs, htk⟩
  · refine ⟨.slice none 0 0, fun W => ?_, ⟨Row.nil w, h.hB, h.low, h.tab⟩, rfl⟩
    go_simp
  · refine ⟨.slice (some ⟨g, 0, none⟩) 0 cap, fun W => ?_, ⟨⟨rfl, .inr ⟨g, cap, cur, rfl, hb, hg, Nat.zero_le _, hcm, hcs, rfl⟩⟩, h.hB, h.low, h.tab⟩, rfl⟩
    unfold maxLen at hcm
    go_simp

set_option maxHeartbeats 1000000 in
/-- sim.appendThread. -/
theorem appendThread_at {B : Nat} {w : World} {v : Value} {xs : List UInt8} (h : At B w v xs) (i : Int) (h0 : -9223372036854775808 ≤ i) (h1 : i ≤ 9223372036854775807) (hlen : xs.length ≤ 700000000) :
    Calls Tryd.prog 30 #[v, .int .i64 i] w fun e w' => ∃ v' ys, e = .returned v' ∧ ys.length ≤ 40 ∧ At B w' v' (xs ++ ys) ∧ Op (fp v) w (fp v') w' := by
  obtain ⟨v1, w1, A1, H1, O1⟩ := h.str ⟨#[44, 34, 112, 105, 100, 34, 58, 48, 44, 34, 116, 105, 100, 34, 58]⟩ (by show _ + 15 ≤ _; omega)
  have HU := hide (AppendInt_at H1.out i h0 h1 (by simp; omega))
  clear h
  have hle := itoa_le i h0 h1
  have HL := hide hle
  clear hle
  go_enter Tryd.func30, Tryd.ntmps30
  go_wp2_with (at_builtin; refine wpL_app rfl _ _ 29 9 rfl v _ rfl rfl A1.out ?_; refine Hid.out ?_)
  refine hide ?_
  go_wp2_with fail
  refine HU.out.mono ?_
  rintro e w4 ⟨v4, rfl, h4, o4⟩
  have H4 := hide h4
  have O4 := hide (O1.out.trans o4)
  clear h4 o4
  go_wp2
  go_ret
  refine ⟨v4, _, rfl, ?_, by have := H4.out; rw [List.append_assoc] at this; exact this, O4.out⟩
  have := HL.out
  simp; omega

/-- append(v, '.', c1, c2, c3). -/
theorem wpL_lit4 {ops : Array Oper} {rest : List Oper} {o : Oper} {a : Act} {Q : Exit → Act → World → Prop} {B : Nat} {w : World} {v : Value} {xs : List UInt8} (h : At B w v xs) (hlen : xs.length ≤ 900000000)
    (hgd : o.guard = none) (s x : Operand) (ho : o.op = .call { callee := .builtin .append, args := #[s, x], argTypes := #[29, 29] }) (ht : o.type = 29) (c0 c1 c2 c3 : Int) (b0 : 0 ≤ c0 ∧ c0 ≤ 255) (b1 : 0 ≤ c1 ∧ c1 ≤ 255) (b2 : 0 ≤ c2 ∧ c2 ≤ 255) (b3 : 0 ≤ c3 ∧ c3 ≤ 255)
    (hs : a.eval s = v) (hx : a.eval x = .slice (some ⟨w.heap.size, 0, none⟩) 4 4)
    (hK : ∀ v' w' ys, ys.length = 4 → At B w' v' (xs ++ ys) → Op (fp v) w (fp v') w' → wpList Tryd.prog ops Q rest (a.put o.dst v') w') :
    wpList Tryd.prog ops Q (o :: rest) a (w.alloc (.cells #[.int .u8 c0, .int .u8 c1, .int .u8 c2, .int .u8 c3] 5)) := by
  have key : ∀ c : Int, 0 ≤ c ∧ c ≤ 255 → ((UInt8.ofNat c.toNat).toNat : Int) = c := fun c hc => by
    rw [UInt8.toNat_ofNat_of_lt' (by show c.toNat < 256; omega)]; omega
  obtain ⟨v', w', hr, h1, h2⟩ := h.lit [UInt8.ofNat c0.toNat, UInt8.ofNat c1.toNat, UInt8.ofNat c2.toNat, UInt8.ofNat c3.toNat] #[.int .u8 c0, .int .u8 c1, .int .u8 c2, .int .u8 c3] 4 rfl
    (by simp only [Lib.byteCells, List.map_cons, List.map_nil, key c0 b0, key c1 b1, key c2 b2, key c3 b3]) (by omega)
  refine wpL_app hgd s x 29 29 ho v _ hs hx (by rw [ht]; exact hr.out) (hK v' w' _ ?_ h1.out h2.out)
  rfl

theorem u8_wrap_bd (x : Int) : 0 ≤ IntKind.u8.wrap x ∧ IntKind.u8.wrap x ≤ 255 := by rw [IntKind.wrap_u8]; omega

theorem tdiv_bd (t : Int) (h0 : -9223372036854775808 ≤ t) (h1 : t ≤ 9223372036854775807) : -9223372036854775808 ≤ t.tdiv 1000 ∧ t.tdiv 1000 ≤ 9223372036854775807 := by
  by_cases h : 0 ≤ t
  · rw [Int.tdiv_eq_ediv_of_nonneg h]; omega
  · have e : t.tdiv 1000 = -((-t).tdiv 1000) := by rw [Int.neg_tdiv, Int.neg_neg]
    rw [e, Int.tdiv_eq_ediv_of_nonneg (show 0 ≤ -t by omega)]; omega

set_option maxHeartbeats 1000000 in
/-- sim.appendMicroseconds. -/
theorem appendMicros_at {B : Nat} {w : World} {v : Value} {xs : List UInt8} (h : At B w v xs) (t : Int) (h0 : -9223372036854775808 ≤ t) (h1 : t ≤ 9223372036854775807) (hlen : xs.length ≤ 700000000) :
    Calls Tryd.prog 32 #[v, .int .i64 t] w fun e w' => ∃ v' ys, e = .returned v' ∧ ys.length ≤ 40 ∧ At B w' v' (xs ++ ys) ∧ Op (fp v) w (fp v') w' := by
  obtain ⟨v1, w1, A1, H1, O1⟩ := h.str ⟨#[44, 34, 116, 115, 34, 58]⟩ (by show _ + 6 ≤ _; omega)
  go_enter Tryd.func32, Tryd.ntmps32
  go_wp2_with (at_builtin; refine wpL_app rfl _ _ 29 9 rfl v _ rfl rfl A1.out ?_; refine Hid.out ?_)
  refine hide ?_
  go_wp2_with fail
  refine (AppendInt_at H1.out (t.tdiv 1000) (tdiv_bd t h0 h1).1 (tdiv_bd t h0 h1).2 (by simp; omega)).mono ?_
  rintro e w2 ⟨v2, rfl, h2, o2⟩
  have H2 := hide h2
  have O2 := hide (O1.out.trans o2)
  clear h2 o2 h
  have hle := itoa_le _ (tdiv_bd t h0 h1).1 (tdiv_bd t h0 h1).2
  have HL := hide hle
  clear hle
  go_wp2_with (at_builtin; refine Hid.out ?_)
  refine hide ?_
  refine wpL_lit4 H2.out (by have := HL.out; simp; omega) rfl _ _ rfl rfl 46 _ _ _ (by omega) ⟨Int.emod_nonneg _ (by decide), by omega⟩ ⟨Int.emod_nonneg _ (by decide), by omega⟩ ⟨Int.emod_nonneg _ (by decide), by omega⟩ rfl rfl ?_
  intro v3 w3 ys hys h3 o3
  have H3 := hide h3
  have O3 := hide (O2.out.trans o3)
  have HY := hide hys
  clear h3 o3 hys
  go_wp2
  go_ret
  refine ⟨v3, _, rfl, ?_, by have := H3.out; simp only [List.append_assoc] at this; exact this, O3.out⟩
  have := HL.out; have := HY.out
  simp; omega

set_option maxHeartbeats 1000000 in
/-- (*timeline).begin. -/
theorem tlBegin_at {B : Nat} {w : World} {v : Value} {xs : List UInt8} (T : Nat) (h : At B w v xs) (hc : w.cell? ⟨T, 7, none⟩ = some v) (name ph : ByteArray) (hn : name.size ≤ 20) (hp : ph.size ≤ 20) :
    Calls Tryd.prog 31 #[.pointer (some ⟨T, 0, none⟩), .string name, .string ph] w fun e w' => ∃ v' ys, e = .returned v' ∧ ys.length ≤ 80 ∧ At B w' v' ys ∧ Op (fp v) w (fp v') w' := by
  obtain ⟨v0, hsl, h0, hf⟩ := h.trunc
  have hnl : name.data.toList.length = name.size := rfl
  have hpl : ph.data.toList.length = ph.size := rfl
  obtain ⟨v1, w1, A1, H1, O1⟩ := h0.str ⟨#[44, 10, 123, 34, 110, 97, 109, 101, 34, 58, 34]⟩ (by show _ + 11 ≤ _; simp)
  obtain ⟨v2, w2, A2, H2, O2⟩ := H1.out.str name (by simp; omega)
  obtain ⟨v3, w3, A3, H3, O3⟩ := H2.out.str ⟨#[34, 44, 34, 112, 104, 34, 58, 34]⟩ (by show _ + 8 ≤ _; simp; omega)
  obtain ⟨v4, w4, A4, H4, O4⟩ := H3.out.str ph (by simp; omega)
  obtain ⟨v5, w5, A5, H5, O5⟩ := H4.out.lit [34] #[.int .u8 34] 1 rfl rfl (by simp; omega)
  have O := hide (O1.out.trans (O2.out.trans (O3.out.trans (O4.out.trans O5.out))))
  have HL := hide (show ([] ++ (⟨#[44, 10, 123, 34, 110, 97, 109, 101, 34, 58, 34]⟩ : ByteArray).data.toList ++ name.data.toList ++ (⟨#[34, 44, 34, 112, 104, 34, 58, 34]⟩ : ByteArray).data.toList ++ ph.data.toList ++ [34] : List UInt8).length ≤ 80 by simp; omega)
  have HF := hide hf
  clear h h0 hf hnl hpl
  go_enter Tryd.func31, Tryd.ntmps31
  go_wp2_with (at_builtin; refine wpL_app rfl _ _ 29 9 rfl v0 _ rfl rfl A1.out ?_; refine Hid.out ?_)
  refine hide ?_
  go_wp2_with (at_builtin; refine wpL_app rfl _ _ 29 9 rfl v1 _ rfl rfl A2.out ?_; refine Hid.out ?_)
  refine hide ?_
  go_wp2_with (at_builtin; refine wpL_app rfl _ _ 29 9 rfl v2 _ rfl rfl A3.out ?_; refine Hid.out ?_)
  refine hide ?_
  go_wp2_with (at_builtin; refine wpL_app rfl _ _ 29 9 rfl v3 _ rfl rfl A4.out ?_; refine Hid.out ?_)
  refine hide ?_
  go_wp2_with (at_builtin; refine wpL_app rfl _ _ 29 29 rfl v4 _ rfl rfl A5.out ?_; refine Hid.out ?_)
  refine hide ?_
  go_wp2
  go_ret
  exact ⟨v5, _, rfl, HL.out, H5.out, by rw [← HF.out]; exact O.out⟩
end Go.Proofs.Qxb6614809aDoor
