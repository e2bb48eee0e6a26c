import Derived.Test.Qxb6617969aModelLaw
import Derived.Deep.CutBlock
namespace Go.Proofs.Qxb6617969a.Base
open Go.RowKit

set_option maxRecDepth 100000 in
set_option maxHeartbeats 1000000 in
theorem blank_any (a : Option Addr) (cap : Nat) (m : List Int) (w : World) (hl : m.length ≤ 1048576) (ht : Txt w (.slice a m.length cap) m) :
    Calls Try.prog 16 #[.slice a m.length cap] w fun e w' => e = .returned (.bool (bocB m)) ∧ w' = w := by
  have hcell : Hid (∀ i, i < m.length → ∃ b o, a = some ⟨b, o, none⟩ ∧ w.cell? ⟨b, o + i, none⟩ = some (.int .u8 (byt m i))) := by
    intro i hi
    rcases ht with ⟨_, h⟩ | ⟨b, o, cp, hv, hc⟩
    · rw [h] at hi; simp at hi
    · simp only [Value.slice.injEq] at hv
      exact ⟨b, o, hv.1, hc i hi⟩
  clear ht
  go_enter Try.func16, Try.ntmps16
  go_upto_block 0 with fail
  go_cut [3] (fun j wz => j = .int .i64 (wEnd m 0) ∧ wz = w)
  case first =>
    go_wp2_with fail
    go_loopg [3] (m.length) (fun g j w3 => ∃ o : Nat, j = .int .i64 o ∧ w3 = w ∧ o ≤ m.length ∧ (∀ i, i < o → isW (byt m i) = true) ∧ g = m.length - o)
    case atStart => exact ⟨0, rfl, rfl, Nat.zero_le _, by intro i a; omega, rfl⟩
    case round =>
      obtain ⟨o, rfl, rfl, ho1, hall, hg⟩ := hrel
      have HALL := hid hall
      have HG := hid hg
      clear hall hg
      by_cases hlt : o < m.length
      · obtain ⟨b, q, rfl, hc⟩ := hcell.out o hlt
        obtain ⟨c, hcb⟩ : ∃ c, c = byt m o := ⟨_, rfl⟩
        rw [← hcb] at hc
        have HCB := hid hcb
        clear hcb
        cases hw : isW c
        · have GW := hid (zzIsWhite_any c wr)
          rw [hw] at GW
          have HE := hid (wEnd_of m 0 o (Nat.zero_le _) (fun i _ h => HALL.out i h) (by rw [← HCB.out]; exact hw))
          clear hw
          go_wp2_with (go_at_call 21; refine GW.out.mono ?_; rintro e w3 ⟨rfl, rfl⟩)
          go_meet
          case rel => exact ⟨by rw [← HE.out], rfl⟩
        · have GW := hid (zzIsWhite_any c wr)
          rw [hw] at GW
          have HW := hid hw
          clear hw
          go_wp2_with (go_at_call 21; refine GW.out.mono ?_; rintro e w3 ⟨rfl, rfl⟩)
          go_roundg (m.length - (o + 1))
          case measure => rw [HG.out]; omega
          case rel =>
            refine ⟨o + 1, by go_num, rfl, by omega, ?_, rfl⟩
            intro i b
            by_cases hio : i = o
            · subst hio; rw [← HCB.out]; exact HW.out
            · exact HALL.out i (by omega)
      · have HE := hid (wEnd_of m 0 o (Nat.zero_le _) (fun i _ h => HALL.out i h) (by rw [byt_ge m o (by omega)]; rfl))
        go_wp2_with fail
        go_meet
        case rel => exact ⟨by rw [← HE.out], rfl⟩
  case rest =>
    obtain ⟨rfl, rfl⟩ := hcut
    obtain ⟨j, hj⟩ : ∃ j, j = wEnd m 0 := ⟨_, rfl⟩
    have hjl := wEnd_le m 0 (Nat.zero_le _)
    have HC : Hid (bocB m = (decide (m.length ≤ j) || (byt m j == 35))) := by show _ = _; rw [hj]; rfl
    rw [← hj] at hjl ⊢
    clear hj
    by_cases hlt : j < m.length
    · obtain ⟨b, q, rfl, hc⟩ := hcell.out j hlt
      have hne : ((j : Int) == (m.length : Int)) = false := by rw [beq_eq_false_iff_ne]; omega
      have HR : Hid (bocB m = (byt m j == 35)) := by show _ = _; rw [HC.out]; simp; omega
      go_wp2_with fail
      go_ret
      exact ⟨by rw [HR.out]; rfl, rfl⟩
    · have hne : ((j : Int) == (m.length : Int)) = true := by rw [beq_iff_eq]; omega
      have HR : Hid (bocB m = true) := by show _ = _; rw [HC.out]; simp; omega
      go_wp2_with fail
      go_ret
      exact ⟨by rw [HR.out]; rfl, rfl⟩
end Go.Proofs.Qxb6617969a.Base
