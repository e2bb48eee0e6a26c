import Derived.Test.Qxb6617992aKeep
namespace Go.Proofs.Qxb6617992a.Keep
open Go.RowKit Go.Maps

set_option maxRecDepth 100000 in
set_option maxHeartbeats 1000000 in
theorem script_bad (ak : Option Addr) (lk ck : Nat) (K : Nat → ByteArray) (av : Option Addr) (lv cv : Nat) (w : World)
    (hmk : lk ≤ maxLen) (HK : Strs w ak lk K) (h : 4096 < lk ∨ 4096 < lv) :
    Calls Try.prog 4 #[.slice ak lk ck, .slice av lv cv] w fun e w' => e = .returned (.bool true) ∧ Below w.heap.size w w' := by
  have G6 := hid (zzBytes10_any ak lk ck K av lv cv w hmk HK)
  clear HK
  unfold maxLen at hmk
  by_cases h1 : 4096 < lk
  · clear h
    go_enter Try.func4, Try.ntmps4
    go_wp2_with fail
    refine G6.out.mono ?_
    rintro e w1 ⟨⟨r, rfl⟩, rfl⟩
    cases r
    all_goals
      go_wp2_with fail
      go_ret
      exact ⟨rfl, Below.refl _ _⟩
  · have h2 : 4096 < lv := by omega
    clear h
    go_enter Try.func4, Try.ntmps4
    go_wp2_with fail
    refine G6.out.mono ?_
    rintro e w1 ⟨⟨r, rfl⟩, rfl⟩
    cases r
    all_goals
      go_wp2_with fail
      go_ret
      exact ⟨rfl, Below.refl _ _⟩
end Go.Proofs.Qxb6617992a.Keep
