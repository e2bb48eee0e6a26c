import Derived.Test.Qxb6617992aKeep
namespace Go.Proofs.Qxb6617992a.Keep
open Go.RowKit Go.Maps

set_option maxRecDepth 100000 in
set_option maxHeartbeats 1000000 in
theorem leaves_bad (ak : Option Addr) (lk ck : Nat) (K : Nat → ByteArray) (av : Option Addr) (lv cv : Nat) (s : ByteArray) (x y : Int) (w : World)
    (hmk : lk ≤ maxLen) (HK : Strs w ak lk K) (h : 4096 < lk ∨ 4096 < lv ∨ 1048576 < s.size ∨ (1048576 - (s.size : Int) - 8 * lv) < 0) :
    Calls Try.prog 3 #[.slice ak lk ck, .slice av lv cv, .string s, .int .i64 x, .int .i64 y] w fun e w' => e = .returned (.bool true) ∧ Below w.heap.size w w' := by
  have G6 := hid (zzBytes6_any ak lk ck K av lv cv s x y w hmk HK)
  clear HK
  unfold maxLen at hmk
  by_cases h1 : 4096 < lk
  · clear h
    go_enter Try.func3, Try.ntmps3
    go_wp2_with fail
    refine G6.out.mono ?_
    rintro e w1 ⟨⟨r, rfl⟩, rfl⟩
    cases r
    all_goals
      go_wp2_with fail
      go_ret
      exact ⟨rfl, Below.refl _ _⟩
  · by_cases h2 : 4096 < lv
    · clear h
      go_enter Try.func3, Try.ntmps3
      go_wp2_with fail
      refine G6.out.mono ?_
      rintro e w1 ⟨⟨r, rfl⟩, rfl⟩
      cases r
      all_goals
        go_wp2_with fail
        go_ret
        exact ⟨rfl, Below.refl _ _⟩
    · by_cases h3 : 1048576 < s.size
      · clear h
        go_enter Try.func3, Try.ntmps3
        go_wp2_with fail
        refine G6.out.mono ?_
        rintro e w1 ⟨⟨r, rfl⟩, rfl⟩
        cases r
        all_goals
          go_wp2_with fail
          go_ret
          exact ⟨rfl, Below.refl _ _⟩
      · have h4 : (1048576 - (s.size : Int) - 8 * lv) < 0 := by omega
        clear h
        go_enter Try.func3, Try.ntmps3
        go_wp2_with fail
        refine G6.out.mono ?_
        rintro e w1 ⟨⟨r, rfl⟩, rfl⟩
        cases r
        all_goals
          go_wp2_with fail
          go_ret
          exact ⟨rfl, Below.refl _ _⟩

theorem spot_none {w : World} {a : Addr} {v : Value} (h : w.cell? a = some v) : ∃ b o, a = ⟨b, o, none⟩ := by
  obtain ⟨b, o, sp⟩ := a
  cases sp with
  | none => exact ⟨b, o, rfl⟩
  | some p => simp [World.cell?] at h; split at h <;> simp at h

theorem strs_of {w : World} {x : Addr} {len : Nat} {ss : List ByteArray} (hl : len ≤ ss.length) (hc : ∀ i, i < ss.length → w.cell? (x.add i) = some (.string (ss.getD i ByteArray.empty))) (hw : ∀ s ∈ ss, s.size ≤ maxLen) :
    Strs w (some x) len (fun i => ss.getD i ByteArray.empty) := by
  intro i hi
  have h0 := hc 0 (by omega)
  rw [Addr.add_zero'] at h0
  obtain ⟨b, o, rfl⟩ := spot_none h0
  have h1 := hc i (by omega)
  rw [Addr.add_lit] at h1
  refine ⟨b, o, rfl, h1, hw _ ?_⟩
  show ss.getD i _ ∈ ss
  rw [List.getD_eq_getElem?_getD, List.getElem?_eq_getElem (by omega)]
  exact List.getElem_mem _
theorem nums_of {w : World} {x : Addr} {len : Nat} {zs : List Int} (hl : len ≤ zs.length) (hc : ∀ i, i < zs.length → w.cell? (x.add i) = some (.int .i64 (zs.getD i 0))) (hw : ∀ n ∈ zs, (Lit.int .i64 n).wf = true) :
    Nums w (some x) len (fun i => zs.getD i 0) := by
  intro i hi
  have h0 := hc 0 (by omega)
  rw [Addr.add_zero'] at h0
  obtain ⟨b, o, rfl⟩ := spot_none h0
  have h1 := hc i (by omega)
  rw [Addr.add_lit] at h1
  refine ⟨b, o, rfl, h1, hw _ ?_⟩
  show zs.getD i 0 ∈ zs
  rw [List.getD_eq_getElem?_getD, List.getElem?_eq_getElem (by omega)]
  exact List.getElem_mem _
end Go.Proofs.Qxb6617992a.Keep
