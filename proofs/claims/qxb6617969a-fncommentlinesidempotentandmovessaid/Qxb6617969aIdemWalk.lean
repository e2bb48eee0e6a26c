import Derived.Test.Qxb6617969aShims
import Derived.Deep.CutBlock
namespace Go.Proofs.Qxb6617969a.Idem
open Go.RowKit Base

set_option maxRecDepth 100000 in
set_option maxHeartbeats 400000 in
theorem walk_long (a : Option Addr) (len cap : Nat) (i off : Int) (w : World) (hl : 1048576 < len) :
    Calls Try.prog 6 #[.slice a len cap, .int .i64 i, .int .i64 off] w fun e w' => e = .returned (.bool true) ∧ Below w.heap.size w w' := by
  go_enter Try.func6, Try.ntmps6
  go_wp2_with (go_at_call 20; refine (zzBytes20_not _ _ _ _ _ _ hl).mono ?_; rintro e w' ⟨rfl, rfl⟩)
  go_ret
  exact ⟨rfl, Below.refl _ _⟩

set_option maxRecDepth 100000 in
set_option maxHeartbeats 400000 in
theorem walk_bad (a : Option Addr) (len cap : Nat) (i off : Int) (w : World) (hl : len ≤ 1048576) (h : i < 0) :
    Calls Try.prog 6 #[.slice a len cap, .int .i64 i, .int .i64 off] w fun e w' => e = .returned (.bool true) ∧ Below w.heap.size w w' := by
  go_enter Try.func6, Try.ntmps6
  go_wp2_with (go_at_call 20; refine (zzBytes20_any _ _ _ _ _ _ hl).mono ?_; rintro e w' ⟨rfl, rfl⟩)
  go_ret
  exact ⟨rfl, Below.refl _ _⟩

/-- What is handed in: nil, or a row of which the copy will be made. -/
def InRow (w : World) (a : Option Addr) (len cap : Nat) (l : List Int) : Prop :=
  (a = none ∧ len = 0 ∧ cap = 0 ∧ l = []) ∨ ∃ x w1 w2, a = some x ∧ l.length = len ∧
      (Instr.makeSlice 22 (.int .i64 (len : Int)) (.int .i64 (len : Int))).run Try.prog w = .ok (.slice (some ⟨w.heap.size, 0, none⟩) len len) w1 ∧
      (∀ ty, (Builtin.copy_ #[22, 22] ty #[.slice (some ⟨w.heap.size, 0, none⟩) len len, .slice (some x) len cap]).run Try.prog w1 = .ok (goInt len) w2) ∧
      Below w.heap.size w w2 ∧ w.heap.size < w2.heap.size ∧ Txt w2 (.slice (some ⟨w.heap.size, 0, none⟩) l.length l.length) l

set_option maxRecDepth 100000 in
set_option maxHeartbeats 1000000 in
theorem walk_main (a : Option Addr) (len cap : Nat) (l : List Int) (p : Nat) (ls : Int) (w : World) (hll : l.length = len) (hl : len ≤ 1048576) (hm : (p : Int) ≤ 9223372036854775807) (hin : InRow w a len cap l) :
    Calls Try.prog 6 #[.slice a len cap, .int .i64 p, .int .i64 ls] w fun e w' => e = .returned (.bool true) ∧ Below w.heap.size w w' := by
  subst hll
  have HIN := hid hin
  clear hin
  have q22 : ∀ (w : World) (a : Option Addr) (n c : Nat), (binOp .neq 22 (.slice a n c) (.slice none 0 0)).run Try.prog w = .ok (.bool (!a.isNone)) w := fun w a n c => run_neq_slice_nil w 22 5 a n c Try.underlying22
  go_enter Try.func6, Try.ntmps6
  go_upto_if 26 with (go_at_call 20; refine (zzBytes20_any _ _ _ _ _ _ hl).mono ?_; rintro e w' ⟨rfl, rfl⟩)
  go_cut [0, 26] (fun v _ wz => ∃ a' cap', v = .slice a' l.length cap' ∧ Txt wz v l ∧ Below w.heap.size w wz ∧ Old v wz.heap.size ∧ w.heap.size ≤ wz.heap.size)
  case first =>
    rcases HIN.out with ⟨rfl, h2, rfl, rfl⟩ | ⟨x, w1, w2, rfl, _, hmk, hcp, hb, hs, ht⟩
    · go_wp2_with fail
      go_meet
      case rel => exact ⟨none, 0, rfl, .inl ⟨rfl, rfl⟩, Below.refl _ _, (by intro a len cap e; cases e), Nat.le_refl _⟩
    · have HB := hid hb; have HS := hid hs; have HT := hid ht
      clear hb hs ht
      go_wp2_with fail
      go_meet
      case rel => exact ⟨_, _, rfl, HT.out, HB.out, (by intro a len cap e; simp only [Value.slice.injEq, Option.some.injEq] at e; rw [← e.1]; exact HS.out), Nat.le_of_lt HS.out⟩
  case rest =>
    obtain ⟨a', cap', rfl, hT, hB, hOld, hsz⟩ := hcut
    have HT := hid hT; have HB := hid hB; have HO := hid hOld
    clear hT hB hOld HIN q22
    have hcell : Hid (∀ i, i < l.length → ∃ b o, a' = some ⟨b, o, none⟩ ∧ wc.cell? ⟨b, o + i, none⟩ = some (.int .u8 (byt l i))) := by
      intro i hi
      rcases HT.out with ⟨_, h⟩ | ⟨b, o, cp, hv, hc⟩
      · rw [h] at hi; simp at hi
      · simp only [Value.slice.injEq] at hv
        exact ⟨b, o, hv.1, hc i hi⟩
    go_upto_block 0 with fail
    go_cut [8] (fun j wz => j = .int .i64 (wEnd l p) ∧ wz = wc)
    case first =>
      go_wp2_with fail
      go_loopg [8] (l.length - p) (fun g j w3 => ∃ o : Nat, j = .int .i64 o ∧ w3 = wc ∧ p ≤ o ∧ (o ≤ l.length ∨ o = p) ∧ (∀ i, p ≤ i → i < o → isW (byt l i) = true) ∧ g = l.length - o)
      case atStart => exact ⟨p, rfl, rfl, Nat.le_refl _, .inr rfl, by intro i a b; omega, rfl⟩
      case round =>
        obtain ⟨o, rfl, rfl, ho1, ho2, hall, hg⟩ := hrel
        have HALL := hid hall
        have HG := hid hg
        have HO2 := hid ho2
        clear hall hg ho2
        by_cases hlt : o < l.length
        · obtain ⟨b, q, rfl, hc⟩ := hcell.out o hlt
          obtain ⟨c, hcb⟩ : ∃ c, c = byt l o := ⟨_, rfl⟩
          rw [← hcb] at hc
          have HCB := hid hcb
          clear hcb
          cases hw : isW c
          · have GW := hid (zzIsWhite_any c wr)
            rw [hw] at GW
            have HE := hid (wEnd_of l p o ho1 HALL.out (by rw [← HCB.out]; exact hw))
            clear hw
            go_wp2_with (go_at_call 21; refine GW.out.mono ?_; rintro e w3 ⟨rfl, rfl⟩)
            go_meet
            case rel => exact ⟨by rw [← HE.out], rfl⟩
          · have GW := hid (zzIsWhite_any c wr)
            rw [hw] at GW
            have HW := hid hw
            clear hw
            go_wp2_with (go_at_call 21; refine GW.out.mono ?_; rintro e w3 ⟨rfl, rfl⟩)
            go_roundg (l.length - (o + 1))
            case measure => rw [HG.out]; omega
            case rel =>
              refine ⟨o + 1, by go_num, rfl, by omega, .inl (by omega), ?_, rfl⟩
              intro i a b
              by_cases hio : i = o
              · subst hio; rw [← HCB.out]; exact HW.out
              · exact HALL.out i a (by omega)
        · have HE := hid (wEnd_of l p o ho1 HALL.out (by rw [byt_ge l o (by omega)]; rfl))
          go_wp2_with fail
          go_meet
          case rel => exact ⟨by rw [← HE.out], rfl⟩
    case rest =>
      obtain ⟨rfl, rfl⟩ := hcut
      obtain ⟨j, hj⟩ : ∃ j, j = wEnd l p := ⟨_, rfl⟩
      have HC : Hid (hasC l p = (decide (j < l.length) && !(byt l j == 35) && !isB (byt l j))) := by show _ = _; rw [hj]; rfl
      rw [← hj]
      clear hj
      obtain ⟨wa, hwa⟩ : ∃ wa, wa = wc := ⟨_, rfl⟩
      have HWA := hid hwa
      clear hwa
      go_upto_region 14 with fail
      go_cut [9] (fun x wz => x = .bool (hasC l p) ∧ wz = wa)
      case first =>
        by_cases hlt : j < l.length
        · obtain ⟨b, q, rfl, hc⟩ := hcell.out j hlt
          obtain ⟨c, hcb⟩ : ∃ c, c = byt l j := ⟨_, rfl⟩
          rw [← hcb] at hc HC
          clear hcb
          cases h35 : (c == 35)
          · have h35' : (c != 35) = true := by simp [bne, h35]
            have GB := hid (zzIsBreak_any c wc)
            have HR : Hid (hasC l p = !isB c) := by show _ = _; rw [HC.out, h35]; simp [hlt]
            clear h35
            go_wp2_with (go_at_call 15; refine GB.out.mono ?_; rintro e w3 ⟨rfl, rfl⟩)
            go_meet
            case rel => exact ⟨by rw [HR.out], HWA.out.symm⟩
          · have h35' : (c != 35) = false := by simp [bne, h35]
            have HR : Hid (hasC l p = false) := by show _ = _; rw [HC.out, h35]; simp
            clear h35
            go_wp2_with fail
            go_meet
            case rel => exact ⟨by rw [HR.out], HWA.out.symm⟩
        · have HR : Hid (hasC l p = false) := by show _ = _; rw [HC.out]; simp [hlt]
          go_wp2_with fail
          go_meet
          case rel => exact ⟨by rw [HR.out], HWA.out.symm⟩
      case rest =>
        obtain ⟨rfl, rfl⟩ := hcut
        have hwe := HWA.out
        subst hwe
        clear HC
        obtain ⟨R, hR⟩ : ∃ R, R = cl l (l.length + 1) p ls := ⟨_, rfl⟩
        have hag := cl_again l (l.length + 1) p ls (by omega)
        rw [← hR] at hag
        have HRE := hid hR
        have HAG := hid hag
        clear hR hag
        obtain ⟨q, lq⟩ := R
        go_wp2_with fail
        refine (newPar_any _ _ _ _ _ _ _ _).mono ?_
        rintro e wA ⟨rfl, hPA, hbA, hsA⟩
        have hBA : Below w.heap.size w wA := HB.out.trans (hbA.mono hsz)
        have hTA : Txt wA (.slice a' l.length cap') l := HT.out.below hbA HO.out
        have hap : Apart (.slice a' l.length cap') wc.heap.size := HO.out.apart (Nat.le_refl _)
        have HPA := hid hPA; have HBA := hid hBA; have HTA := hid hTA; have HAP := hid hap; have HSA := hid hsA
        clear hPA hBA hTA hap hbA hsA
        go_wp2_with fail
        refine (zzComment_any _ _ l p ls wA hl HPA.out HTA.out HAP.out (q, lq) HRE.out.symm).mono ?_
        rintro e wB ⟨rfl, hPB, hOB⟩
        have hTB := HTA.out.onto hOB HAP.out
        have hBB : Below w.heap.size w wB := hOB.below HBA.out hsz
        have hsB : wB.heap.size = wc.heap.size + 1 := hOB.size.trans HSA.out
        have hOdB : Old (.slice a' l.length cap') wB.heap.size := HO.out.mono (by omega)
        have hszB : w.heap.size ≤ wB.heap.size := by omega
        have HPB := hid hPB; have HBB := hid hBB; have HTB := hid hTB; have HOdB := hid hOdB
        clear hPB hOB hTB hBB hsB hOdB
        go_wp2_with fail
        refine (zzPos_any _ _ _ _ _ HPB.out).mono ?_
        rintro e w3 ⟨rfl, rfl⟩
        go_wp2_with fail
        refine (zzLine_any _ _ _ _ _ HPB.out).mono ?_
        rintro e w4 ⟨rfl, rfl⟩
        go_wp2_with fail
        refine (newPar_any _ _ _ _ _ _ _ _).mono ?_
        rintro e wC ⟨rfl, hPC, hbC, hsC⟩
        have hBC : Below w.heap.size w wC := HBB.out.trans (hbC.mono hszB)
        have hTC : Txt wC (.slice a' l.length cap') l := HTB.out.below hbC HOdB.out
        have hap : Apart (.slice a' l.length cap') w4.heap.size := HOdB.out.apart (Nat.le_refl _)
        have HPC := hid hPC; have HBC := hid hBC; have HTC := hid hTC; have HAPC := hid hap
        clear hPC hBC hTC hap hbC hsC
        go_wp2_with fail
        refine (zzComment_any _ _ l q lq wC hl HPC.out HTC.out HAPC.out (q, lq) HAG.out).mono ?_
        rintro e wD ⟨rfl, hPD, hOD⟩
        have hTD := HTC.out.onto hOD HAPC.out
        have hBD : Below w.heap.size w wD := hOD.below HBC.out hszB
        have HPD := hid hPD; have HBD := hid hBD; have HTD := hid hTD
        clear hPD hOD hTD hBD
        go_wp2_with fail
        refine (zzPos_any _ _ _ _ _ HPD.out).mono ?_
        rintro e w5 ⟨rfl, rfl⟩
        go_wp2_with fail
        refine (zzLine_any _ _ _ _ _ HPD.out).mono ?_
        rintro e w6 ⟨rfl, rfl⟩
        by_cases hpl : l.length ≤ p
        · have hst := idem_stay l p ls (.inl hpl)
          rw [← HRE.out] at hst
          simp only [Prod.mk.injEq] at hst
          obtain ⟨rfl, rfl⟩ := hst
          go_wp2_with fail
          go_ret
          exact ⟨rfl, HBD.out⟩
        go_upto_if 99 with fail
        cases hs : hasC l p
        · have hmv := idem_move l p ls (by omega) hs
          rw [← HRE.out] at hmv
          simp only at hmv
          obtain ⟨m1, m2, m3⟩ := hmv
          clear hs
          have m1' : (p : Int) < q := by omega
          have m2' : (q : Int) ≤ l.length := by omega
          by_cases hq : q = l.length
          · have hq' : ((q : Int) == (l.length : Int)) = true := by rw [beq_iff_eq]; omega
            clear hq m3
            go_wp2_with fail
            go_ret
            exact ⟨rfl, HBD.out⟩
          · have hq' : ((q : Int) == (l.length : Int)) = false := by rw [beq_eq_false_iff_ne]; omega
            have hm3 := m3.resolve_left hq
            obtain ⟨hb, rfl⟩ := hm3
            clear m3
            have hcell : ∃ b o, a' = some ⟨b, o, none⟩ ∧ w6.cell? ⟨b, o + (q - 1), none⟩ = some (.int .u8 (byt l (q - 1))) := by
              rcases HTD.out with ⟨_, h⟩ | ⟨b, o, cp, hv, hc⟩
              · rw [h] at m2; simp at m2; omega
              · simp only [Value.slice.injEq] at hv
                exact ⟨b, o, hv.1, hc (q - 1) (by omega)⟩
            obtain ⟨b, o, rfl, hc⟩ := hcell
            have GB := hid (zzIsBreak_any (byt l (q - 1)) w6)
            rw [hb] at GB
            generalize byt l (q - 1) = c at hc GB
            have hq1 : ((q : Int) - 1) = ((q - 1 : Nat) : Int) := by omega
            clear hb
            go_wp2_with (go_at_call 15; refine GB.out.mono ?_; rintro e w7 ⟨rfl, rfl⟩)
            go_ret
            exact ⟨rfl, HBD.out⟩
        · have hst := idem_stay l p ls (.inr hs)
          rw [← HRE.out] at hst
          simp only [Prod.mk.injEq] at hst
          obtain ⟨rfl, rfl⟩ := hst
          clear hs
          go_wp2_with fail
          go_ret
          exact ⟨rfl, HBD.out⟩
end Go.Proofs.Qxb6617969a.Idem
