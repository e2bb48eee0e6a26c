import Derived.Test.Qxb6617969aLineLaw
import Derived.Deep.LoopGhost
namespace Go.Proofs.Qxb6617969a.Base
open Go.RowKit

theorem eof_yes (pb : Nat) (v : Value) (l : List Int) (p : Nat) (ls : Int) (w : World) (hp : Par w pb v p ls) (ht : Txt w v l) (h : l.length ≤ p) :
    Calls Try.prog 27 #[.pointer (some ⟨pb, 0, none⟩)] w fun e w' => e = .returned (.bool true) ∧ ∃ n, w' = w.drewN n := by
  have := eof_any pb v l p ls w hp ht
  rwa [decide_eq_true h] at this
theorem eof_no (pb : Nat) (v : Value) (l : List Int) (p : Nat) (ls : Int) (w : World) (hp : Par w pb v p ls) (ht : Txt w v l) (h : ¬ l.length ≤ p) :
    Calls Try.prog 27 #[.pointer (some ⟨pb, 0, none⟩)] w fun e w' => e = .returned (.bool false) ∧ ∃ n, w' = w.drewN n := by
  have := eof_any pb v l p ls w hp ht
  rwa [decide_eq_false h] at this

set_option maxRecDepth 100000 in
set_option maxHeartbeats 1000000 in
theorem comment_any (pb : Nat) (v : Value) (l : List Int) (p : Nat) (ls : Int) (w : World) (hl : l.length ≤ 1048576) (hp : Par w pb v p ls) (ht : Txt w v l) (ha : Apart v pb) (R : Nat × Int) (hR : cl l (l.length + 1) p ls = R) :
    Calls Try.prog 25 #[.pointer (some ⟨pb, 0, none⟩)] w fun e w' => e = .returned (.tuple #[]) ∧ Par w' pb v R.1 R.2 ∧ Onto pb w w' := by
  have HR := hid hR
  have HP := hid hp
  clear hR hp
  go_enter Try.func25, Try.ntmps25
  go_wp2_with fail
  go_loopg [2] (l.length + 1) (fun f off wr => ∃ (pk : Nat) (lsk : Int), Par wr pb v pk lsk ∧ Onto pb w wr ∧ cl l f pk lsk = R ∧ l.length < pk + f)
  case atStart => exact ⟨p, ls, HP.out, Onto.refl _ _, HR.out, by omega⟩
  case round =>
    obtain ⟨pk, lsk, hP, hO, hcl, hf⟩ := hrel
    have HP' := hid hP
    have HO := hid hO
    have HCL := hid hcl
    have HT := hid (ht.onto hO ha)
    obtain ⟨fo, hfo⟩ : ∃ fo, fo = gk := ⟨_, rfl⟩
    rw [← hfo] at hf HCL
    have HFO := hid hfo
    clear hP hO hcl HP HR hfo
    by_cases h1 : l.length ≤ pk
    · go_wp2_with fail
      refine (eof_yes pb v l pk lsk wr HP'.out HT.out h1).mono ?_
      rintro e w2 ⟨rfl, n, rfl⟩
      go_wp2_with fail
      go_end0
      have hr := HCL.out
      rw [cl_ge l _ _ _ h1] at hr
      subst hr
      exact ⟨rfl, HP'.out.drewN n, HO.out.drewN n⟩
    · go_wp2_with fail
      refine (eof_no pb v l pk lsk wr HP'.out HT.out h1).mono ?_
      rintro e w2 ⟨rfl, n, hw2⟩
      have hPa : Par w2 pb v pk lsk := by rw [hw2]; exact HP'.out.drewN n
      have hOa : Onto pb w w2 := by rw [hw2]; exact HO.out.drewN n
      have hTa : Txt w2 v l := by rw [hw2]; exact HT.out.drewN n
      clear hw2 HT HO HP'
      have c0 := hPa.c0
      have c1 := hPa.c1
      have HPa := hid hPa; have HOa := hid hOa; have HTa := hid hTa
      clear hPa hOa hTa
      go_wp2_with fail
      have hlk : pk < l.length := by omega
      go_loopg [2] (l.length - pk) (fun g off w3 => ∃ o : Nat, off = .int .i64 o ∧ w3 = w2 ∧ pk ≤ o ∧ o ≤ l.length ∧ (∀ i, pk ≤ i → i < o → isW (byt l i) = true) ∧ g = l.length - o)
      case atStart => exact ⟨pk, rfl, rfl, Nat.le_refl _, by omega, by intro i a b; omega, rfl⟩
      case round =>
        obtain ⟨o, rfl, rfl, ho1, ho2, hall, hg⟩ := hrel
        have HALL := hid hall
        have HG := hid hg
        clear hall hg
        have GB := hid (byteAt_any pb v l o wr (by omega) c0 HTa.out)
        rw [Int.toNat_natCast] at GB
        cases hw : isW (byt l o)
        · have GW := hid (isWhite_any (byt l o) wr)
          rw [hw] at GW
          have HE := hid (wEnd_of l pk o ho1 HALL.out hw)
          clear hw
          go_wp2_with fail
          refine GB.out.mono ?_
          rintro e w3 ⟨rfl, rfl⟩
          go_wp2_with fail
          refine GW.out.mono ?_
          rintro e w3 ⟨rfl, rfl⟩
          go_wp2_with fail
          refine GB.out.mono ?_
          rintro e w3 ⟨rfl, rfl⟩
          go_upto_if 19 with fail
          go_cut [2, 19] (fun off _ w4 => off = .int .i64 (lEnd l pk) ∧ w4 = w3)
          case first =>
            by_cases h35 : byt l o = 35
            · have HL : Hid (lEnd l pk = eEnd l o) := by show _ = _; unfold lEnd; rw [← HE.out, if_pos h35]
              have h35' : (byt l o == 35) = true := by simpa using h35
              rw [h35']
              clear h35 h35'
              go_wp2_with fail
              go_loopg [2] (l.length - o) (fun g off w4 => ∃ q : Nat, off = .int .i64 q ∧ w4 = w3 ∧ o ≤ q ∧ q ≤ l.length ∧ (∀ i, o ≤ i → i < q → endsB l i = false) ∧ g = l.length - q)
              case atStart => exact ⟨o, rfl, rfl, Nat.le_refl _, by omega, by intro i a b; omega, rfl⟩
              case round =>
                obtain ⟨q, rfl, rfl, hq1, hq2, hall, hg⟩ := hrel
                have HALQ := hid hall
                have HGQ := hid hg
                clear hall hg
                have GE := hid (endsLine_any pb v l q wr hl c0 HTa.out)
                cases hw : endsB l q
                · have hql : q < l.length := by
                    by_cases hh : q < l.length
                    · exact hh
                    · rw [endsB_ge l q (by omega)] at hw; cases hw
                  rw [hw] at GE
                  have HWQ := hid hw
                  clear hw
                  go_wp2_with fail
                  refine GE.out.mono ?_
                  rintro e w4 ⟨rfl, rfl⟩
                  go_wp2_with fail
                  go_roundg (l.length - (q + 1))
                  case measure => rw [HGQ.out]; omega
                  case rel =>
                    refine ⟨q + 1, by go_num, rfl, by omega, by omega, ?_, rfl⟩
                    intro i a b
                    by_cases hio : i = q
                    · subst hio; exact HWQ.out
                    · exact HALQ.out i a (by omega)
                · rw [hw] at GE
                  have HEQ := hid (eEnd_of l o q hq1 HALQ.out hw)
                  clear hw
                  go_wp2_with fail
                  refine GE.out.mono ?_
                  rintro e w4 ⟨rfl, rfl⟩
                  go_wp2_with fail
                  go_meet
                  case rel => exact ⟨by rw [HL.out, ← HEQ.out], rfl⟩
            · have HL : Hid (lEnd l pk = o) := by show _ = _; unfold lEnd; rw [← HE.out, if_neg h35]
              have h35' : (byt l o == 35) = false := by simpa using h35
              clear h35
              go_wp2_with fail
              go_meet
              case rel => exact ⟨by rw [HL.out], rfl⟩
          case rest =>
            obtain ⟨rfl, rfl⟩ := hcut
            have hr1 := lEnd_ge l pk
            have hr2 := lEnd_le l pk (by omega)
            obtain ⟨r, hr⟩ : ∃ r, r = lEnd l pk := ⟨_, rfl⟩
            have hC1 := cl_stop l fo pk lsk
            have hC2 := cl_end l fo pk lsk hlk hf
            have hC3 := cl_step l fo pk lsk hlk hf
            rw [HCL.out] at hC1 hC2 hC3
            rw [← hr] at hr1 hr2 hC1 hC2 hC3 ⊢
            have HC1 := hid hC1; have HC2 := hid hC2; have HC3 := hid hC3; have HRE := hid hr
            clear hr hC1 hC2 hC3
            have GE := hid (endsLine_any pb v l r wc hl c0 HTa.out)
            cases he : endsB l r
            · rw [he] at GE
              have HE' := hid he
              clear he
              go_wp2_with fail
              refine GE.out.mono ?_
              rintro e w4 ⟨rfl, rfl⟩
              go_wp2_with fail
              refine bodyPost_ret (results_none rfl _ _ _) rfl ?_
              have := HC1.out HE'.out
              subst this
              exact ⟨rfl, HPa.out, HOa.out⟩
            · rw [he] at GE
              have HE' := hid he
              have c2 := HPa.out.c2
              have f1 := HPa.out.f1
              clear he
              go_wp2_with fail
              refine GE.out.mono ?_
              rintro e w4 ⟨rfl, rfl⟩
              go_wp2_with fail
              have hPs := HPa.out.set1 r
              have hOs : Onto pb w _ := HOa.out.setCell 1 (.int .i64 r)
              have hTs := ht.onto hOs ha
              by_cases hrl : l.length ≤ r
              · refine (eof_yes pb v l r lsk _ hPs hTs hrl).mono ?_
                rintro e w5 ⟨rfl, n5, hw5⟩
                have hP5 : Par w5 pb v r lsk := by rw [hw5]; exact hPs.drewN n5
                have hO5 : Onto pb w w5 := by rw [hw5]; exact hOs.drewN n5
                have HP5 := hid hP5; have HO5 := hid hO5
                clear hw5 hP5 hO5 hPs hOs hTs
                go_wp2_with fail
                refine bodyPost_ret (results_none rfl _ _ _) rfl ?_
                have := HC2.out hrl
                subst this
                exact ⟨rfl, HP5.out, HO5.out⟩
              · refine (eof_no pb v l r lsk _ hPs hTs hrl).mono ?_
                rintro e w5 ⟨rfl, n5, hw5⟩
                have hP5 : Par w5 pb v r lsk := by rw [hw5]; exact hPs.drewN n5
                have hO5 : Onto pb w w5 := by rw [hw5]; exact hOs.drewN n5
                have HP5 := hid hP5; have HO5 := hid hO5
                clear hw5 hP5 hO5 hPs hOs hTs
                go_wp2_with fail
                refine (lineBreak_any pb v l r lsk w5 hl (by omega) HP5.out (ht.onto HO5.out ha)).mono ?_
                rintro e w6 ⟨rfl, m, hm, hP6, hO6⟩
                have HM := hid hm; have HP6 := hid hP6; have HO6 := hid hO6
                clear hm hP6 hO6
                have hb := brk_range l r
                have hn : nxt l r = m := by unfold nxt; have := HM.out; omega
                have hgt := nxt_gt l r HE'.out (by omega)
                rw [hn] at hgt
                have hc3 := HC3.out HE'.out (by omega)
                rw [hn] at hc3
                have HC3' := hid hc3
                clear hn hc3 hb
                go_wp2_with fail
                go_roundg (fo - 1)
                case measure => rw [← HFO.out]; omega
                case rel => exact ⟨m, m, HP6.out, HO5.out.trans HO6.out, HC3'.out.symm, by omega⟩
        · have hol : o < l.length := by
            by_cases hh : o < l.length
            · exact hh
            · rw [byt_ge l o (by omega)] at hw; simp [isW] at hw
          have GW := hid (isWhite_any (byt l o) wr)
          rw [hw] at GW
          have HW := hid hw
          clear hw
          go_wp2_with fail
          refine GB.out.mono ?_
          rintro e w3 ⟨rfl, rfl⟩
          go_wp2_with fail
          refine GW.out.mono ?_
          rintro e w3 ⟨rfl, rfl⟩
          go_wp2_with fail
          go_roundg (l.length - (o + 1))
          case measure => rw [HG.out]; omega
          case rel =>
            refine ⟨o + 1, by go_num, rfl, by omega, by omega, ?_, rfl⟩
            intro i a b
            by_cases hio : i = o
            · subst hio; exact HW.out
            · exact HALL.out i a (by omega)
end Go.Proofs.Qxb6617969a.Base
