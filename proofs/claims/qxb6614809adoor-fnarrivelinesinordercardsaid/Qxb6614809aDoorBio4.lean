/-
  (*bufio.Writer).Write: the walk.
-/
import Derived.Test.Qxb6614809aDoorBio3
import Derived.Deep.DrawnRows
namespace Go.Proofs.Qxb6614809aDoor
open Go.RowKit
set_option linter.unusedVariables false

theorem method_write (a : Addr) (w : World) : (method 238 33 (.pointer (some a)) "Write").run Tryd.prog w = .ok (66, .pointer (some a)) w := by kernel_rfl

set_option maxRecDepth 100000 in
set_option maxHeartbeats 4000000 in
theorem bioWrite_any (wB dB bB pb o c : Nat) (XB : List Nat) (cur : Array Value) (head tail ys : List UInt8) (w : World) (h : Wr wB dB bB XB cur head tail w) (hc : ys.length ≤ c) (hcm : c ≤ maxLen) (hpb : pb ∉ wB :: dB :: XB) (hold : pb < w.heap.size)
    (hsrc : ∀ j, j < ys.length → w.cell? ⟨pb, o + j, none⟩ = some (.int .u8 ((ys.getD j 0).toNat : Int))) (hlim : (head ++ tail).length + ys.length ≤ 400000000) :
    Calls Tryd.prog 26 #[.pointer (some ⟨wB, 0, none⟩), .slice (some ⟨pb, o, none⟩) ys.length c] w fun e w' => e = .returned (.tuple #[.int .i64 ys.length, .nilIface]) ∧ ∃ XB' cur' head' tail', Wr wB dB bB XB' cur' head' tail' w' ∧ head' ++ tail' = head ++ tail ++ ys ∧ Op (wB :: dB :: XB) w (wB :: dB :: XB') w' := by
  obtain ⟨out, hout⟩ : ∃ out, out = head ++ tail := ⟨_, rfl⟩
  have hR : Rel wB dB bB pb XB out ys w w (2 * ys.length + (if tail.length = 0 then 0 else 1)) 0 ys.length o c XB cur head tail :=
    ⟨by omega, hc, by unfold maxLen at hcm; omega, h, by rw [hout]; simp, Op.refl _ _, hpb, hold, fun j hj => by rw [Nat.zero_add]; exact hsrc j hj, rfl⟩
  have HR := hide hR
  rw [← hout] at hlim ⊢
  obtain ⟨len, hlen⟩ : ∃ len, len = ys.length := ⟨_, rfl⟩
  have HL := hide hlim
  have HLEN := hide hlen
  have hl4 : len ≤ 400000000 := by omega
  rw [← hlen]
  rw [← hlen] at HR
  obtain ⟨g0, hg0⟩ : ∃ g0, g0 = 2 * len + (if tail.length = 0 then 0 else 1) := ⟨_, rfl⟩
  rw [← hg0] at HR
  clear h hsrc hR hcm hpb hc hout hlim hlen hold hg0
  go_enter Tryd.func26, Tryd.ntmps26
  go_wp2_with fail
  go_loopg [1, 4] g0 (fun gk p nn wr => ∃ (k r o c' : Nat) (XB' : List Nat) (cur' : Array Value) (head' tail' : List UInt8), p = .slice (some ⟨pb, o, none⟩) r c' ∧ nn = .int .i64 k ∧ Hid (Rel wB dB bB pb XB out ys w wr gk k r o c' XB' cur' head' tail'))
  case atStart => exact ⟨0, len, o, c, XB, cur, head, tail, rfl, rfl, HR.out⟩
  case round =>
    clear HR
    obtain ⟨k, r, o, c', XB', cur', head', tail', rfl, rfl, hrl⟩ := hrel
    have R := hrl.out
    have c0 : wr.cell? ⟨wB, 0, none⟩ = some .nilIface := by rw [cell_of_heap R.writer.blk]; rfl
    have f0 : wr.frozen? ⟨wB, 0, none⟩ = false := frozen_of_heap R.writer.blk 0
    have f2 : wr.frozen? ⟨wB, 2, none⟩ = false := frozen_of_heap R.writer.blk 2
    have c3 : wr.cell? ⟨wB, 3, none⟩ = some (.iface 33 (.pointer (some ⟨bB, 0, none⟩))) := by rw [cell_of_heap R.writer.blk]; rfl
    obtain ⟨tl, htl⟩ : ∃ tl, tl = tail'.length := ⟨_, rfl⟩
    have c2 : wr.cell? ⟨wB, 2, none⟩ = some (.int .i64 (tl : Int)) := by rw [cell_of_heap R.writer.blk, htl]; rfl
    obtain ⟨bv, hbv⟩ : ∃ bv, bv = Value.slice (some ⟨dB, 0, none⟩) 4096 4096 := ⟨_, rfl⟩
    have c1 : wr.cell? ⟨wB, 1, none⟩ = some bv := by rw [cell_of_heap R.writer.blk, hbv]; rfl
    have hfit : tl ≤ 4096 := by rw [htl]; exact R.writer.fit
    obtain ⟨dA, hsl, hdA⟩ := slice_from dB tl hfit
    rw [← hbv] at hsl
    have hkr : k + r ≤ 400000000 := by rw [R.sum, ← HLEN.out]; omega
    have hrc : r ≤ c' := R.cap
    have hcm : (c' : Int) ≤ 9223372036854775807 := by have := R.capm; omega
    have hA : ∀ W, Wr wB dB bB XB' cur' head' tail' W → Calls Tryd.prog 35 #[.pointer (some ⟨wB, 0, none⟩)] W fun e w' => e = .returned (.int .i64 (4096 - (tl : Int))) ∧ ∃ n, w' = W.drewN n := fun W hW => by rw [htl]; exact avail_any _ _ _ _ _ _ _ W hW
    have hB : ∀ W, Wr wB dB bB XB' cur' head' tail' W → Calls Tryd.prog 36 #[.pointer (some ⟨wB, 0, none⟩)] W fun e w' => e = .returned (.int .i64 (tl : Int)) ∧ w' = W := fun W hW => by rw [htl]; exact buffered_any _ _ _ _ _ _ _ W hW
    have htot : head'.length + tail'.length + r ≤ 400000000 := by
      have h1 := congrArg List.length R.text
      have h2 := HL.out
      have h3 := R.sum
      simp only [List.length_append, List.length_take] at h1
      omega
    have HA := hide hA
    have HB := hide hB
    have HTL := hide htl
    have HDA := hide hdA
    have HTOT := hide htot
    clear hA hB htl R hbv hdA htot
    go_wp2_with fail
    refine (HA.out _ (by exact hrl.out.writer)).mono ?_
    rintro e w0 ⟨rfl, n0, rfl⟩
    by_cases hgo : 4096 - (tl : Int) < (r : Int)
    · by_cases htz : tl = 0
      · have htz' : ((tl : Int) == 0) = true := by simp [htz]
        have hwr : ∀ W, W.heap = wr.heap → Calls Tryd.prog 66 #[.pointer (some ⟨bB, 0, none⟩), .slice (some ⟨pb, o, none⟩) r c'] W fun e w' => e = .returned (.tuple #[.int .i64 r, .nilIface]) ∧ ∃ XB2, IsBuf bB XB2 (head' ++ ys.drop k) w' ∧ Op XB' W XB2 w' ∧ w'.cell? ⟨wB, 0, none⟩ = some .nilIface ∧ w'.frozen? ⟨wB, 0, none⟩ = false := by
          intro W hW
          have R := hrl.out
          have hWr := R.writer.kept (w' := W) (fun k _ => by rw [hW])
          refine (bufWrite_any bB r c' XB' head' (ys.drop k) ⟨pb, o, none⟩ W hWr.buf R.drop_len (by omega) (fun e => R.far' (by obtain ⟨v, lr, _, _, _, rfl⟩ := hWr.buf; rw [show pb = bB from e]; simp)) (fun j hj => ?_) (by have := HTOT.out; omega)).mono ?_
          · have hb : W.heap[((⟨pb, o, none⟩ : Addr).add j).block]? = wr.heap[((⟨pb, o, none⟩ : Addr).add j).block]? := by rw [hW]
            rw [World.cell?_of_block hb]; exact R.cells j hj
          · rintro e w' ⟨rfl, XB2, hb, ho⟩
            have hw1 : w'.heap[wB]? = W.heap[wB]? := ho.block _ (lt_of_heap hWr.blk) hWr.ne2
            rw [hWr.blk] at hw1
            exact ⟨rfl, XB2, hb, ho, by rw [cell_of_heap hw1]; rfl, frozen_of_heap hw1 0⟩
        have HW := hide hwr
        clear hwr
        have hmeth := method_write
        rcases Nat.eq_or_lt_of_le hrc with hcr | hcr
        · subst hcr
          go_wp2_with fail
          refine (HB.out _ (by exact hrl.out.writer.kept (fun _ _ => rfl))).mono ?_
          rintro e w1 ⟨rfl, rfl⟩
          go_wp2_with fail
          refine (HW.out _ (by rfl)).mono ?_
          rintro e w2 ⟨rfl, XB2, hb, ho, d0, e0⟩
          have HBB := hide hb
          have HOO := hide ho
          clear hb ho
          go_wp2
          go_roundg 0
          case measure => have := hrl.out.num; omega
          case rel => exact ⟨k + r, 0, o, r - r, XB2, cur', head' ++ ys.drop k, [], by simp, by go_num, hrl.out.direct (W' := wr.drewN n0) (by rw [← HTL.out]; exact htz) rfl (Op.drewN _ _ _) HBB.out HOO.out o⟩
        · go_wp2_with fail
          refine (HB.out _ (by exact hrl.out.writer.kept (fun _ _ => rfl))).mono ?_
          rintro e w1 ⟨rfl, rfl⟩
          go_wp2_with fail
          refine (HW.out _ (by rfl)).mono ?_
          rintro e w2 ⟨rfl, XB2, hb, ho, d0, e0⟩
          have HBB := hide hb
          have HOO := hide ho
          clear hb ho
          go_wp2
          go_roundg 0
          case measure => have := hrl.out.num; omega
          case rel => exact ⟨k + r, 0, o + r, c' - r, XB2, cur', head' ++ ys.drop k, [], by simp, by go_num, hrl.out.direct (W' := wr.drewN n0) (by rw [← HTL.out]; exact htz) rfl (Op.drewN _ _ _) HBB.out HOO.out (o + r)⟩
      · have htz' : ((tl : Int) == 0) = false := by simp [htz]
        have hwlt : wB < wr.heap.size := lt_of_heap hrl.out.writer.blk
        have hwd : wB ≠ dB := hrl.out.writer.ne1
        go_wp2_with fail
        refine (HB.out _ (by exact hrl.out.writer.kept (fun _ _ => rfl))).mono ?_
        rintro e w1 ⟨rfl, rfl⟩
        go_wp2_with fail
        go_region_held3 (fun W => W.cell? ⟨wB, 1, none⟩ = some bv ∧ W.cell? ⟨wB, 2, none⟩ = some (.int .i64 (tl : Int))) (go_keep)
          ((refine step_copy (wB := wB) (dB := dB) (bB := bB) (XB := XB') (cur := cur') (head := head') (tail := tail') (zs := ys.drop k) rfl _ _ rfl rfl dA ⟨pb, o, none⟩ c' tl r rfl rfl (by exact hrl.out.writer.kept (fun _ _ => rfl)) HTL.out hrl.out.drop_len.symm HDA.out (by exact fun j hj => hrl.out.cells j hj) ?_; intro q W2 cur2 HK; have h4 := HK.out.2.2.2.2; have d1 : W2.cell? ⟨wB, 1, none⟩ = some bv := (World.cell?_of_block (a := ⟨wB, 1, none⟩) (h4.block wB (by exact hwlt) (by simpa using hwd))).trans (by exact c1); have d2 : W2.cell? ⟨wB, 2, none⟩ = some (.int .i64 (tl : Int)) := (World.cell?_of_block (a := ⟨wB, 2, none⟩) (h4.block wB (by exact hwlt) (by simpa using hwd))).trans (by exact c2); have e2 : W2.frozen? ⟨wB, 2, none⟩ = false := (World.frozen?_of_block (a := ⟨wB, 2, none⟩) (h4.block wB (by exact hwlt) (by simpa using hwd))).trans (by exact f2); clear h4))
        obtain ⟨hq, h1, h2, h3, h4⟩ := HK.out
        have hq' : q = 4096 - tl := by rw [hq, hrl.out.drop_len, ← HTL.out]; omega
        have hqi : (q : Int) = 4096 - (tl : Int) := by omega
        have hqb : (tl : Int) + (q : Int) ≤ 4096 := by omega
        have hqc : ¬ c' = q := by omega
        have hqr : (q : Int) ≤ (r : Int) := by omega
        have hW3 := (hrl.out.writer.kept (w' := wr.drewN (n0 + 1)) (fun _ _ => rfl)).copied hq h1 h2 h3 h4
        rw [← HTL.out] at hW3
        have HW3 := hide hW3
        have HQ := hide hq
        have HQI := hide hqi
        clear h1 h2 h3 h4 hW3 hq hq' hqi HK
        go_wp2_with fail
        refine (flush_any wB dB bB XB' cur2 head' (tail' ++ (ys.drop k).take q) _ (by exact HW3.out.1) (by have := HTOT.out; have := hrl.out.drop_len; rw [List.length_append, List.length_take]; omega)).mono ?_
        rintro e wF ⟨rfl, XB3, hwF, hoF⟩
        have HF := hide hwF
        have HOF := hide (HW3.out.2.trans hoF)
        clear hwF hoF
        go_wp2
        go_roundg (2 * (r - q))
        case measure => have hn := hrl.out.num; have hqi := HQI.out; rw [← HTL.out] at hn; split at hn <;> omega
        case rel => exact ⟨k + q, r - q, o + q, c' - q, XB3, cur2, head' ++ (tail' ++ (ys.drop k).take q), [], by simp, by go_num, hrl.out.filled (W' := wr.drewN (n0 + 1)) (W2 := W2) (by rw [← HTL.out]; exact htz) (Op.drewN _ _ _) HQ.out HF.out HOF.out (o + q) (.inl rfl)⟩
    · have hgo' : decide (4096 - (tl : Int) < (r : Int)) = false := by simpa using hgo
      have hwlt : wB < wr.heap.size := lt_of_heap hrl.out.writer.blk
      have hwd : wB ≠ dB := hrl.out.writer.ne1
      go_wp2_with fail
      go_region_held3 (fun W => W.cell? ⟨wB, 1, none⟩ = some bv ∧ W.cell? ⟨wB, 2, none⟩ = some (.int .i64 (tl : Int))) (go_keep)
          ((refine step_copy (wB := wB) (dB := dB) (bB := bB) (XB := XB') (cur := cur') (head := head') (tail := tail') (zs := ys.drop k) rfl _ _ rfl rfl dA ⟨pb, o, none⟩ c' tl r rfl rfl (by exact hrl.out.writer.kept (fun _ _ => rfl)) HTL.out hrl.out.drop_len.symm HDA.out (by exact fun j hj => hrl.out.cells j hj) ?_; intro q W2 cur2 HK; have h4 := HK.out.2.2.2.2; have d1 : W2.cell? ⟨wB, 1, none⟩ = some bv := (World.cell?_of_block (a := ⟨wB, 1, none⟩) (h4.block wB (by exact hwlt) (by simpa using hwd))).trans (by exact c1); have d2 : W2.cell? ⟨wB, 2, none⟩ = some (.int .i64 (tl : Int)) := (World.cell?_of_block (a := ⟨wB, 2, none⟩) (h4.block wB (by exact hwlt) (by simpa using hwd))).trans (by exact c2); have e2 : W2.frozen? ⟨wB, 2, none⟩ = false := (World.frozen?_of_block (a := ⟨wB, 2, none⟩) (h4.block wB (by exact hwlt) (by simpa using hwd))).trans (by exact f2); clear h4))
      obtain ⟨hq, h1, h2, h3, h4⟩ := HK.out
      have hq' : q = r := by rw [hq, hrl.out.drop_len, ← HTL.out]; omega
      subst hq'
      have hqb : (tl : Int) + (q : Int) ≤ 4096 := by omega
      have hW3 := (hrl.out.writer.kept (w' := wr.drewN (n0 + 1)) (fun _ _ => rfl)).copied hq h1 h2 h3 h4
      rw [← HTL.out] at hW3
      have HW3 := hide hW3
      have HQ := hide hq
      clear h1 h2 h3 h4 hW3 hq HK
      go_wp2
      go_ret2
      have hsum := hrl.out.sum
      have hlen := HLEN.out
      refine ⟨?_, XB', cur2, head', _, HW3.out.1, ?_, hrl.out.oper.trans ((Op.drewN _ _ (n0 + 1)).trans HW3.out.2)⟩
      · have e : (k : Int) + (q : Int) = (len : Int) := by omega
        show Ending.returned (.tuple #[.int .i64 ((k : Int) + (q : Int)), .nilIface]) = _
        rw [e]
      · have e2 : (ys.drop k).take q = ys.drop k := List.take_of_length_le (by rw [hrl.out.drop_len]; exact Nat.le_refl _)
        rw [e2, ← List.append_assoc, hrl.out.text, List.append_assoc, List.take_append_drop]
end Go.Proofs.Qxb6614809aDoor
