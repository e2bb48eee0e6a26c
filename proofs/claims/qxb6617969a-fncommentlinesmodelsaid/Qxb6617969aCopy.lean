import Derived.Test.Qxb6617969aBreakLaw
import Derived.Laws.CopyRow
import Derived.OwnWalk
namespace Go.Proofs.Qxb6617969a.Base
open Go.RowKit

theorem hid {p : Prop} (h : p) : Hid p := h

theorem info5 : (Try.prog.info? 5).map (fun i => (i.zero, i.size, i.bytes)) = some (some (.int .u8 0), 1, 1) := by kernel_rfl

/-- 'zzc := make([]byte, len(src)); copy(zzc, src)': the two runs, and what lies there behind them. -/
theorem copy_runs (x : Addr) (len cap : Nat) (zs : List Int) (w : World) (hl : len ≤ 1048576) (hlc : len ≤ cap) (hz : zs.length = cap)
    (hc : ∀ j, j < zs.length → w.cell? (x.add j) = some (.int .u8 (zs.getD j 0))) :
    ∃ w1 w2 : World,
      (Instr.makeSlice 22 (.int .i64 (len : Int)) (.int .i64 (len : Int))).run Try.prog w = .ok (.slice (some ⟨w.heap.size, 0, none⟩) len len) w1 ∧
      (∀ ty, (Builtin.copy_ #[22, 22] ty #[.slice (some ⟨w.heap.size, 0, none⟩) len len, .slice (some x) len cap]).run Try.prog w1 = .ok (goInt len) w2) ∧
      Below w.heap.size w w2 ∧ w.heap.size < w2.heap.size ∧
      ∀ j, j < (zs.take len).length → w2.cell? ⟨w.heap.size, 0 + j, none⟩ = some (.int .u8 (byt (zs.take len) j)) := by
  obtain ⟨i0, hi, hz0, hz1, hz2⟩ := info_parts info5
  obtain ⟨w1, hmk, hown, hgrow⟩ := run_make_full (P := Try.prog) w w.heap.size 22 5 i0 _ 1 Try.underlying22 hi hz0 hz1 .i64 .i64 len (by rw [hz2]; omega) (by unfold maxLen; omega) (Nat.le_refl _)
  have hlen : (zs.take len).length = len := by simp; omega
  obtain ⟨cs, hcs⟩ : ∃ cs, cs = (zs.take len).map (Value.int .u8) := ⟨_, rfl⟩
  have hcl : cs.length = len := by rw [hcs, List.length_map, hlen]
  obtain ⟨_, hv | ⟨g, cap', cur, hv, hg0, hh, hnc, _, hcs', htake⟩⟩ := hown
  · cases hv.1
  · simp only [Value.slice.injEq, Option.some.injEq, Addr.mk.injEq] at hv
    obtain ⟨⟨rfl, -⟩, -, rfl⟩ := hv
    have hsrc : ∀ j v, cs[j]? = some v → w1.cell? (x.add j) = some v := by
      intro j v hj
      have hjl : j < len := by have := (List.getElem?_eq_some_iff.1 hj).1; omega
      have h1 := hc j (by omega)
      have h2 : w1.cell? (x.add j) = some (.int .u8 (zs.getD j 0)) := hgrow.cell h1 (by simp)
      rw [h2]
      rw [hcs] at hj
      simp [hjl] at hj
      obtain ⟨a, ha, rfl⟩ := hj
      simp [List.getD, ha]
    have hrun := fun ty => run_copy_row (P := Try.prog) w1 22 22 ty 5 w.heap.size 0 len len x len cap cur 5 cs Try.underlying22 (by rw [hi]; simp [hz1]) hh (by rw [hcl]; simp) hsrc (by omega) (by rw [hcs]; exact ints_oneCell _ _)
    rw [hcl] at hrun
    refine ⟨w1, _, hmk, hrun, ?_, ?_, ?_⟩
    · have hB : Below w.heap.size w w1 := (Below.refl _ _).grown hgrow (Nat.le_refl _) (by intro k hk; cases hk)
      exact hB.trans ⟨rfl, rfl, rfl, by simp, fun k hk => setRow_other w1 _ k _ (by omega)⟩
    · have := (Array.getElem?_eq_some_iff.1 hh).1
      simpa using this
    · intro j hj
      rw [hlen] at hj
      rw [cell_setRow_same w1 _ _ cur _ 5 (0, 0) hh]
      simp only [List.take_zero, List.nil_append, Nat.zero_add, List.getElem?_toArray]
      rw [List.getElem?_append_left (by omega), hcs, List.getElem?_map, byt]
      simp [hj, List.getD, List.getElem?_eq_getElem (show j < zs.length by omega)]
end Go.Proofs.Qxb6617969a.Base
