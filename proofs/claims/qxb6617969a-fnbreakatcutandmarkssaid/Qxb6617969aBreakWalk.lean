import Derived.Test.Qxb6617969aCopy
import Derived.Deep.DeepCutAuto
import Derived.WalkSpells
import Derived.WalkLawsBesides
namespace Go.Proofs.Qxb6617969a.Base
open Go.RowKit

theorem cell_par (w : World) (n : Nat) (v : Value) (pos ls d md : Int) (hn : n = w.heap.size) : (w.alloc (.cells #[v, .int .i64 pos, .int .i64 ls, .int .i64 d, .int .i64 md, .map none] 49)).cell? ⟨n, 0, none⟩ = some v := by
  subst hn; simp

set_option maxHeartbeats 400000 in
theorem walk_long (a : Option Addr) (len cap : Nat) (i off : Int) (w : World) (hl : 1048576 < len) :
    Calls Try.prog 3 #[.slice a len cap, .int .i64 i, .int .i64 off] w fun e w' => e = .returned (.bool true) ∧ Below w.heap.size w w' := by
  go_enter Try.func3, Try.ntmps3
  go_wp2_with (go_at_call 7; refine (zzBytes7_not _ _ _ _ _ _ hl).mono ?_; rintro e w' ⟨rfl, rfl⟩)
  go_ret
  exact ⟨rfl, Below.refl _ _⟩

set_option maxHeartbeats 400000 in
theorem walk_bad (a : Option Addr) (len cap : Nat) (i off : Int) (w : World) (hl : len ≤ 1048576) (h : i < 0 ∨ (len : Int) < i ∨ off < 0) :
    Calls Try.prog 3 #[.slice a len cap, .int .i64 i, .int .i64 off] w fun e w' => e = .returned (.bool true) ∧ Below w.heap.size w w' := by
  by_cases h1 : i < 0
  · clear h
    go_enter Try.func3, Try.ntmps3
    go_wp2_with (go_at_call 7; refine (zzBytes7_any _ _ _ _ _ _ hl).mono ?_; rintro e w' ⟨rfl, rfl⟩)
    go_ret
    exact ⟨rfl, Below.refl _ _⟩
  · by_cases h2 : (len : Int) < i
    · clear h
      go_enter Try.func3, Try.ntmps3
      go_wp2_with (go_at_call 7; refine (zzBytes7_any _ _ _ _ _ _ hl).mono ?_; rintro e w' ⟨rfl, rfl⟩)
      go_ret
      exact ⟨rfl, Below.refl _ _⟩
    · have h3 : off < 0 := by omega
      clear h
      go_enter Try.func3, Try.ntmps3
      go_wp2_with (go_at_call 7; refine (zzBytes7_any _ _ _ _ _ _ hl).mono ?_; rintro e w' ⟨rfl, rfl⟩)
      go_ret
      exact ⟨rfl, Below.refl _ _⟩

set_option maxHeartbeats 1000000 in
theorem walk_nil (off : Int) (w : World) (h0 : 0 ≤ off) (hm : off ≤ 9223372036854775807) :
    Calls Try.prog 3 #[.slice none 0 0, .int .i64 0, .int .i64 off] w fun e w' => e = .returned (.bool true) ∧ Below w.heap.size w w' := by
  have b0 : ∀ k, byt [] k = 0 := fun k => byt_ge [] k (by simp)
  have e0 : brk [] off.toNat = 0 := by simp [brk, b0]
  have m1 : hmB [] off.toNat CRLF = false := by rw [hm_crlf]; simp [b0]
  have m2 : hmB [] off.toNat CR = false := by unfold CR; rw [hm_one _ _ _ (by decide)]; simp [b0]
  have m3 : hmB [] off.toNat LF = false := by unfold LF; rw [hm_one _ _ _ (by decide)]; simp [b0]
  have tx : ∀ W, Txt W (.slice none 0 0) [] := fun W => .inl ⟨rfl, rfl⟩
  have H1 := fun W => hm_any (.slice none 0 0) [] off CRLF W h0 (by simp) (by decide) (by decide) (tx W)
  have H2 := fun W => hm_any (.slice none 0 0) [] off CR W h0 (by simp) (by decide) (by decide) (tx W)
  have H3 := fun W => hm_any (.slice none 0 0) [] off LF W h0 (by simp) (by decide) (by decide) (tx W)
  rw [m1] at H1; rw [m2] at H2; rw [m3] at H3
  unfold CRLF at H1; unfold CR at H2; unfold LF at H3
  have HK := fun (W : World) (pb : Nat) (hp : W.cell? ⟨pb, 0, none⟩ = some (.slice none 0 0)) => zzBreakAt_any pb (.slice none 0 0) [] off W h0 (by simp) hp (tx W)
  rw [e0] at HK
  clear b0 e0 m1 m2 m3 tx
  have G1 := hid H1; have G2 := hid H2; have G3 := hid H3; have GK := hid HK
  clear H1 H2 H3 HK
  go_enter Try.func3, Try.ntmps3
  go_wp2_with (go_at_call 7; refine (zzBytes7_any _ _ _ _ _ _ (by omega)).mono ?_; rintro e w' ⟨rfl, rfl⟩)
  refine (G1.out _).mono ?_
  rintro e w1 ⟨rfl, n1, rfl⟩
  go_wp2_with fail
  refine (G2.out _).mono ?_
  rintro e w1 ⟨rfl, n2, rfl⟩
  go_wp2_with fail
  refine (G3.out _).mono ?_
  rintro e w1 ⟨rfl, n3, rfl⟩
  go_wp2_with fail
  refine (newParser_any _ _ _ _ _ _ _ _).mono ?_
  rintro e w1 ⟨rfl, rfl⟩
  go_wp2_with fail
  refine (GK.out _ _ ?_).mono ?_
  · exact cell_par _ _ _ _ _ _ _ (by simp)
  rintro e w1 ⟨rfl, rfl⟩
  go_wp2_with fail
  refine (newParser_any _ _ _ _ _ _ _ _).mono ?_
  rintro e w1 ⟨rfl, rfl⟩
  go_wp2_with fail
  refine (GK.out _ _ ?_).mono ?_
  · exact cell_par _ _ _ _ _ _ _ (by simp)
  rintro e w1 ⟨rfl, rfl⟩
  go_wp2_with fail
  go_ret
  exact ⟨rfl, ((below_drewN (Below.refl _ _) _).alloc (by simp) _).alloc (by simp) _⟩
end Go.Proofs.Qxb6617969a.Base
