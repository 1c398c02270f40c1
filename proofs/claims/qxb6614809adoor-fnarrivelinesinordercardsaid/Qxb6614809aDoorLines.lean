/-
  (*bytes.Buffer).Bytes, ZZlines.
-/
import Derived.Test.Qxb6614809aDoorNew
import Derived.BigQuiet
namespace Go.Proofs.Qxb6614809aDoor
open Go.RowKit
set_option linter.unusedVariables false

set_option maxRecDepth 100000 in
set_option maxHeartbeats 2000000 in
theorem bytes_any (b : Nat) (X : List Nat) (bs : List UInt8) (w : World) (h : IsBuf b X bs w) :
    Calls Tryd.prog 15 #[.pointer (some ⟨b, 0, none⟩)] w fun e w' => ∃ v, e = .returned v ∧ Row w' v bs ∧ Op [] w [] w' := by
  obtain ⟨v, lr, h1, h2, h3, rfl⟩ := h
  have c0 : w.cell? ⟨b, 0, none⟩ = some v := by rw [cell_of_heap h1]; rfl
  have c1 : w.cell? ⟨b, 1, none⟩ = some (.int .i64 0) := by rw [cell_of_heap h1]; rfl
  have H2 := hide h2
  rcases h2.form with ⟨rfl, rfl⟩ | ⟨g, cap, rfl, hc1, hc2, _⟩
  · clear h1 h2 h3
    go_enter Tryd.func15, Tryd.ntmps15
    go_wp2_with fail
    go_quiet (fail)
    go_wp2
    go_ret
    exact ⟨_, rfl, Row.nil _, Op.drewN _ _ _⟩
  · clear h1 h2 h3
    go_enter Tryd.func15, Tryd.ntmps15
    go_wp2_with fail
    go_quiet (fail)
    go_wp2
    go_ret
    exact ⟨_, rfl, H2.out.kept (fun _ _ => rfl), Op.drewN _ _ _⟩

theorem IsWr.flush {X : List Nat} {wB bB : Nat} {out : List UInt8} {w : World} (h : IsWr X wB bB out w) (hlim : out.length ≤ 500000000) :
    Calls Tryd.prog 14 #[.pointer (some ⟨wB, 0, none⟩)] w fun e w' => e = .returned .nilIface ∧ ∃ X' XB, IsBuf bB XB out w' ∧ Op X w X' w' := by
  obtain ⟨dB, XB, cur, head, tail, h1, rfl, rfl⟩ := h
  refine (flush_any wB dB bB XB cur head tail w h1 (by simpa using hlim)).mono ?_
  rintro e w' ⟨rfl, XB', h2, h3⟩
  exact ⟨rfl, _, XB', h2.buf, h3⟩

set_option maxRecDepth 100000 in
set_option maxHeartbeats 2000000 in
theorem zzlines_any (d : LogD) (w : World) (h : IsLog d w) (hlim : d.out.length ≤ 500000000) :
    Calls Tryd.prog 9 #[.pointer (some ⟨d.z, 0, none⟩)] w fun e w' => ∃ v, e = .returned v ∧ Row w' v d.out ∧ (∀ k ∈ fp v, w.heap.size ≤ k) ∧ ∃ X', Op d.foot w X' w' := by
  have c0 : w.cell? ⟨d.z, 0, none⟩ = some (.pointer (some ⟨d.E, 0, none⟩)) := by rw [cell_of_heap h.hz]; rfl
  have c1 : w.cell? ⟨d.E, 0, none⟩ = some (.pointer (some ⟨d.lB, 0, none⟩)) := by rw [cell_of_heap h.hE]; rfl
  have c2 : w.cell? ⟨d.lB, 0, none⟩ = some (.pointer (some ⟨d.wL, 0, none⟩)) := by rw [cell_of_heap h.ln.blk]; rfl
  have c3 : w.cell? ⟨d.z, 1, none⟩ = some (.pointer (some ⟨d.bL, 0, none⟩)) := by rw [cell_of_heap h.hz]; rfl
  have hzlt := lt_of_heap h.hz
  have hXY : ∀ k ∈ d.XL, k ∈ d.YL := fun k hk => by rw [h.ln.foot]; simp [hk]
  have hzX : d.z ∉ d.XL := fun hk => h.zL (hXY _ hk)
  have HF := hide (h.ln.wr.flush hlim)
  have HX : Hid (∀ k ∈ d.XL, k ∈ d.foot) := hide (fun k hk => by have := hXY k hk; simp [LogD.foot, this])
  clear h hXY
  go_enter Tryd.func9, Tryd.ntmps9
  go_wp2_with fail
  refine HF.out.mono ?_
  rintro e w1 ⟨rfl, X1, XB, hb, ho⟩
  have d3 : w1.cell? ⟨d.z, 1, none⟩ = some (.pointer (some ⟨d.bL, 0, none⟩)) := (World.cell?_of_block (a := ⟨d.z, 1, none⟩) (ho.block _ hzlt hzX)).trans c3
  have HB := hide (bytes_any d.bL XB d.out w1 hb)
  have HO := hide ho
  clear hb ho c3 c0 c1 c2
  go_wp2_with fail
  refine HB.out.mono ?_
  rintro e w2 ⟨v2, rfl, hr, ho2⟩
  obtain ⟨v3, w3, A3, h3, o3⟩ := app_row w2 (.slice none 0 0) v2 [] d.out (Row.nil _) hr (by simp; omega)
  have HA3 := hide A3
  have H3 := hide h3
  have HO3 := hide (ho2.trans (X2 := fp v3) o3)
  clear A3 h3 o3 hr ho2
  go_wp2_with (at_builtin; refine wpL_app rfl _ _ 29 29 rfl _ _ rfl rfl HA3.out ?_; refine Hid.out ?_)
  refine hide ?_
  go_wp2
  go_ret
  refine ⟨v3, rfl, H3.out, ?_, d.foot ++ X1, (HO.out.mono HX.out (fun k hk => by simp at hk; exact hk.symm)).trans (HO3.out.mono (by simp) (fun k hk => .inr hk))⟩
  intro k hk
  rcases HO3.out.fresh k hk with h | h
  · simp at h
  · have := HO.out.size; omega
end Go.Proofs.Qxb6614809aDoor
