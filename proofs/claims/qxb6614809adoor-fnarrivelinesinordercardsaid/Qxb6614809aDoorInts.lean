/-
  strconv.AppendInt at base 10 and its callers, with the exact frame.
-/
import Derived.Test.Qxb6614809aDoorMem
import Derived.Test.Qxb6614809aDoorShelf
import Derived.Lib.ItoaWalk
import Derived.Lib.ItoaMem
import Derived.Lib.AppendIntMem
import Derived.Lib.ItoaLen
namespace Go.Proofs.Qxb6614809aDoor
open Go.RowKit Go.Sort
set_option linter.unusedVariables false

/-- The listed tables read as their initialisers lay them. -/
def Tab (w : World) : Prop := Lib.TabIs Tryd.prog w Tryd.nPow .u64 Lib.pow10Tab ∧ w.cell? ⟨1, 0, none⟩ = some (.string ⟨#[97, 114, 114, 105, 118, 101]⟩)
/-- .. whatever is done from block B on. -/
def TabB (B : Nat) (w : World) : Prop := ∀ w', Below B w w' → Tab w'
theorem TabB.on {B : Nat} {w w1 : World} (h : TabB B w) (hb : Below B w w1) : TabB B w1 := fun w' h' => h w' (hb.trans h')
theorem TabB.here {B : Nat} {w : World} (h : TabB B w) : Tab w := h w (Below.refl _ _)
theorem TabB.op {B : Nat} {w w1 : World} {X X' : List Nat} (h : TabB B w) (ho : Op X w X' w1) (hX : ∀ k ∈ X, B ≤ k) (hB : B ≤ w.heap.size) : TabB B w1 := h.on (ho.below hX hB)

set_option maxRecDepth 100000 in
set_option maxHeartbeats 1000000 in
theorem appendUint_small (v : Value) (xs : List UInt8) (u : Nat) (hu : u < 100) (w : World) (hrow : Row w v xs) (hlen : xs.length ≤ 900000000) :
    Calls Tryd.prog 34 #[v, .int .u64 u, .int .i64 10] w fun e w' => ∃ v', e = .returned v' ∧ Row w' v' (xs ++ Lib.decDigits u) ∧ Op (fp v) w (fp v') w' := by
  have hlen2 : (Lib.decDigits u).length ≤ 20 := by
    rw [Lib.decDigits_length]
    by_cases h10 : u < 10
    · rw [Lib.nDigits_small h10]; omega
    · rw [Lib.nDigits_big h10, Lib.nDigits_small (show u / 10 < 10 by omega)]; omega
  have hsz : (⟨(Lib.decDigits u).toArray⟩ : ByteArray).size = (Lib.decDigits u).length := by simp [ByteArray.size]
  obtain ⟨v1, w1, hr, hrow1, hop⟩ := app_str w v xs ⟨(Lib.decDigits u).toArray⟩ hrow (by rw [hsz]; omega)
  have HR := hide hrow1
  have HO := hide hop
  have HA := hide hr
  have hc : ∀ w, Calls Tryd.prog 38 #[.int .i64 u] w fun e w' => e = .returned (.string ⟨(Lib.decDigits u).toArray⟩) ∧ w' = w := fun w => Tryd.internal_strconv_small u hu w
  have HC := hide hc
  have iu : (u : Int) < 100 := by omega
  clear hrow1 hop hrow hc hlen2 hsz hr
  go_enter Tryd.func34, Tryd.ntmps34
  go_wp2_with (first | (go_at_call 38; refine (HC.out _).mono ?_; rintro e w' ⟨rfl, rfl⟩) | (at_builtin; refine wpL_app rfl _ _ 29 9 rfl v _ rfl rfl HA.out ?_))
  go_ret
  exact ⟨v1, rfl, HR.out, HO.out⟩

theorem op_grow (X : List Nat) (w : World) (k : Nat) (os : Array Obj) : Op X w X (grow (w.drewN k) os) := by
  have h := Lib.below_grow w.heap.size w (Nat.le_refl _) k os
  exact ⟨h.os, h.tape, h.output, h.size, fun j hj _ => h.block j hj, fun _ h => .inl h⟩

set_option maxRecDepth 100000 in
set_option maxHeartbeats 2000000 in
theorem appendUint_big (v : Value) (xs : List UInt8) (u : Nat) (hu : 100 ≤ u) (hu64 : u < 18446744073709551616) (w : World) (hrow : Row w v xs) (hlen : xs.length ≤ 900000000) (htab : Tab w) :
    Calls Tryd.prog 34 #[v, .int .u64 u, .int .i64 10] w fun e w' => ∃ v', e = .returned v' ∧ Row w' v' (xs ++ Lib.decDigits u) ∧ Op (fp v) w (fp v') w' := by
  have hu1 : 1 ≤ u := by omega
  have hnd20 : Lib.nDigits u ≤ 20 := by have := Lib.numDigits_eq u hu1 hu64; split at this <;> omega
  have hal : Tryd.prog.arrayLen 93 = 24 := by simp [Program.arrayLen, Tryd.underlying93]
  have hsl : ∀ W, (Instr.sliceAt 93 (.pointer (some ⟨w.heap.size, 0, none⟩)) none (some (.int .i64 (Lib.nDigits u : Int))) none).run Tryd.prog W = .ok (.slice (some ⟨w.heap.size, 0, none⟩) (Lib.nDigits u) 24) W := fun W => by
    rw [run_sliceAt_array_h W 93 ⟨w.heap.size, 0, none⟩ (by simp [Program.arrayLen, Program.elem, Tryd.underlying93]) .i64 (Lib.nDigits u : Int) (by omega) (by rw [hal]; omega)]
    go_simp
  have hH0 := Lib.holds_zero0 w 93 (Lib.nDigits u) (by omega)
  have hfmt := Tryd.internal_strconv_formatBase10 w.heap.size 0 24 u (Array.replicate (Lib.nDigits u) 0) (w.alloc (.cells Lib.zeros24 93)) hH0 (by rw [Array.size_replicate]; exact Lib.lt_pow_nDigits u) hu64 (by rw [Array.size_replicate]; omega)
  rw [Array.size_replicate] at hfmt
  have hnd : ∀ W, Lib.TabIs Tryd.prog W Tryd.nPow .u64 Lib.pow10Tab → Calls Tryd.prog 39 #[.int .u64 u] W fun e w' => e = .returned (.int .i64 (Lib.nDigits u : Int)) ∧ w' = W := fun W hW => Tryd.internal_strconv_numDigits u hu1 hu64 W hW
  have HT : Hid (Lib.TabIs Tryd.prog (w.alloc (.cells Lib.zeros24 93)) Tryd.nPow .u64 Lib.pow10Tab) := Lib.tabIs_alloc htab.1 _
  have HN := hide hnd
  have HF := hide hfmt
  have HH0 := hide hH0
  have HROW := hide hrow
  have iu : (100 : Int) ≤ (u : Int) := by omega
  clear hH0 hal hfmt hnd htab hrow
  go_enter Tryd.func34, Tryd.ntmps34
  go_wp2_with (first | (go_at_call 39; refine (HN.out _ HT.out).mono ?_; rintro e w' ⟨rfl, rfl⟩))
  go_at_call 40
  refine HF.out.mono ?_
  rintro e w' ⟨rfl, k, v', dk, rfl, hF⟩
  obtain ⟨os, eo⟩ := Lib.fin_at w (.cells Lib.zeros24 93) dk k 0
  have hcells : ∀ j, j < (Lib.decDigits u).length → ((putRow (fun (b : UInt8) => Value.int .u8 (b.toNat : Int)) (w.alloc (.cells Lib.zeros24 93)) w.heap.size 0 dk).drewN k).cell? ((⟨w.heap.size, 0, none⟩ : Addr).add j) = some (.int .u8 (((Lib.decDigits u).getD j 0).toNat : Int)) := by
    intro j hjl
    rw [List.getD_eq_getElem?_getD, List.getElem?_eq_getElem hjl, Option.getD_some, Lib.row_is_numeral hF j hjl, Lib.add_plain, World.cell?_drewN]
    exact cell?_putRow (fun (b : UInt8) => Value.int .u8 (b.toNat : Int)) _ w.heap.size 0 _ dk HH0.out (by rw [hF.size, Array.size_replicate]) j (by rw [hF.size]; rw [Lib.decDigits_length] at hjl; exact hjl)
  have hrow2 : Row ((putRow (fun (b : UInt8) => Value.int .u8 (b.toNat : Int)) (w.alloc (.cells Lib.zeros24 93)) w.heap.size 0 dk).drewN k) v xs := by rw [eo]; exact Lib.ownsRow_grow HROW.out k os
  have hop2 : Op (fp v) w (fp v) ((putRow (fun (b : UInt8) => Value.int .u8 (b.toNat : Int)) (w.alloc (.cells Lib.zeros24 93)) w.heap.size 0 dk).drewN k) := by rw [eo]; exact op_grow _ w k os
  generalize (putRow (fun (b : UInt8) => Value.int .u8 (b.toNat : Int)) (w.alloc (.cells Lib.zeros24 93)) w.heap.size 0 dk).drewN k = W2 at hcells hrow2 hop2 ⊢
  obtain ⟨v3, w3, hr, hrow3, hop3⟩ := app_bytes W2 v xs (Lib.decDigits u) ⟨w.heap.size, 0, none⟩ (Lib.nDigits u) 24 hrow2 (Lib.decDigits_length u) hcells (by omega)
  have HA := hide hr
  have HR3 := hide hrow3
  have HO3 := hide (hop2.trans hop3)
  clear eo hF HH0 HF hcells hrow2 hop2 hr hrow3 hop3
  go_wp2_with (at_builtin; refine wpL_app rfl _ _ 29 29 rfl v _ rfl rfl HA.out ?_)
  go_ret
  exact ⟨v3, rfl, HR3.out, HO3.out⟩

theorem appendUint_any (v : Value) (xs : List UInt8) (u : Nat) (hu64 : u < 18446744073709551616) (w : World) (hrow : Row w v xs) (hlen : xs.length ≤ 900000000) (htab : Tab w) :
    Calls Tryd.prog 34 #[v, .int .u64 u, .int .i64 10] w fun e w' => ∃ v', e = .returned v' ∧ Row w' v' (xs ++ Lib.decDigits u) ∧ Op (fp v) w (fp v') w' := by
  by_cases h : u < 100
  · exact appendUint_small v xs u h w hrow hlen
  · exact appendUint_big v xs u (by omega) hu64 w hrow hlen htab

/-- A new block of bytes, as a literal lays it. -/
theorem lit_cell (w : World) (c : Array Value) (j : Nat) : (w.alloc (.cells c 5)).cell? ((⟨w.heap.size, 0, none⟩ : Addr).add j) = c[j]? := by
  rw [Lib.add_plain]
  simp

set_option maxRecDepth 100000 in
set_option maxHeartbeats 2000000 in
/-- internal/strconv.AppendInt at base 10. -/
theorem appendInt_in (v : Value) (xs : List UInt8) (i : Int) (h0 : -9223372036854775808 ≤ i) (h1 : i ≤ 9223372036854775807) (B : Nat) (w : World) (hrow : Row w v xs) (hlen : xs.length ≤ 800000000) (hB : B ≤ w.heap.size) (hlow : ∀ k ∈ fp v, B ≤ k) (htab : TabB B w) :
    Calls Tryd.prog 25 #[v, .int .i64 i, .int .i64 10] w fun e w' => ∃ v', e = .returned v' ∧ Row w' v' (xs ++ Lib.itoa i) ∧ Op (fp v) w (fp v') w' := by
  by_cases hneg : i < 0
  · obtain ⟨u, rfl⟩ : ∃ u : Nat, i = -(u : Int) := ⟨i.natAbs, by omega⟩
    have hu1 : 1 ≤ u := by omega
    have hu64 : u < 18446744073709551616 := by omega
    have hwr : IntKind.u64.wrap (-IntKind.u64.wrap (-(u : Int))) = (u : Int) := by rw [IntKind.wrap_u64, IntKind.wrap_u64]; omega
    rw [Lib.itoa_neg u hu1]
    obtain ⟨v1, w1, hr, hrow1, hop1⟩ := app_bytes (w.alloc (.cells #[.int .u8 45] 5)) v xs [45] ⟨w.heap.size, 0, none⟩ 1 1 (World.ownsRow.alloc hrow _) rfl (fun j hj => by
      match j, hj with
      | 0, _ => rw [lit_cell]; rfl) (by omega)
    have hop := (Op.alloc (fp v) w (.cells #[.int .u8 45] 5)).trans hop1
    have htab1 := (htab.op hop hlow hB).here
    have HU := hide (appendUint_any v1 (xs ++ [45]) u hu64 w1 hrow1 (by simp; omega) htab1)
    have HA := hide hr
    have HO := hide hop
    clear hr hrow1 hop1 hop htab1 hrow htab hlow
    go_enter Tryd.func25, Tryd.ntmps25
    go_wp2_with (at_builtin; refine wpL_app rfl _ _ 29 29 rfl v _ rfl rfl HA.out ?_)
    refine HU.out.mono ?_
    rintro e w2 ⟨v2, rfl, hrow2, hop2⟩
    have HR2 := hide hrow2
    have HO2 := hide (HO.out.trans hop2)
    clear hrow2 hop2
    go_wp2
    go_ret
    refine ⟨v2, rfl, ?_, HO2.out⟩
    have := HR2.out
    simpa using this
  · obtain ⟨u, rfl⟩ : ∃ u : Nat, i = u := ⟨i.toNat, by omega⟩
    have hu64 : u < 18446744073709551616 := by omega
    rw [Lib.itoa_nonneg]
    have HU := hide (appendUint_any v xs u hu64 w hrow (by omega) htab.here)
    clear hrow htab hlow
    go_enter Tryd.func25, Tryd.ntmps25
    go_wp2_with fail
    refine HU.out.mono ?_
    rintro e w2 ⟨v2, rfl, hrow2, hop2⟩
    have HR2 := hide hrow2
    have HO2 := hide hop2
    clear hrow2 hop2
    go_wp2
    go_ret
    exact ⟨v2, rfl, HR2.out, HO2.out⟩

/-- strconv.AppendInt at base 10. -/
theorem appendInt_pub (v : Value) (xs : List UInt8) (i : Int) (h0 : -9223372036854775808 ≤ i) (h1 : i ≤ 9223372036854775807) (B : Nat) (w : World) (hrow : Row w v xs) (hlen : xs.length ≤ 800000000) (hB : B ≤ w.heap.size) (hlow : ∀ k ∈ fp v, B ≤ k) (htab : TabB B w) :
    Calls Tryd.prog 22 #[v, .int .i64 i, .int .i64 10] w fun e w' => ∃ v', e = .returned v' ∧ Row w' v' (xs ++ Lib.itoa i) ∧ Op (fp v) w (fp v') w' := by
  have HU := hide (appendInt_in v xs i h0 h1 B w hrow hlen hB hlow htab)
  clear hrow htab hlow
  go_enter Tryd.func22, Tryd.ntmps22
  go_wp2_with fail
  refine HU.out.mono ?_
  rintro e w2 ⟨v2, rfl, hrow2, hop2⟩
  have HR2 := hide hrow2
  have HO2 := hide hop2
  clear hrow2 hop2
  go_wp2
  go_ret
  exact ⟨v2, rfl, HR2.out, HO2.out⟩
end Go.Proofs.Qxb6614809aDoor
