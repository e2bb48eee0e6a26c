import Derived.Test.Qxb6617969aRows3
namespace Go.Proofs.Qxb6617969a.Model
open Go.RowKit Base

set_option maxRecDepth 100000 in
set_option maxHeartbeats 400000 in
theorem walk_long (a : Option Addr) (len cap : Nat) (i off : Int) (w : World) (hl : 1048576 < len) :
    Calls Try.prog 5 #[.slice a len cap, .int .i64 i, .int .i64 off] w fun e w' => e = .returned (.bool true) ∧ Below w.heap.size w w' := by
  go_enter Try.func5, Try.ntmps5
  go_wp2_with (go_at_call 14; refine (zzBytes14_not _ _ _ _ _ _ hl).mono ?_; rintro e w' ⟨rfl, rfl⟩)
  go_ret
  exact ⟨rfl, Below.refl _ _⟩

set_option maxRecDepth 100000 in
set_option maxHeartbeats 400000 in
theorem walk_bad (a : Option Addr) (len cap : Nat) (i off : Int) (w : World) (hl : len ≤ 1048576) (h : i < 0) :
    Calls Try.prog 5 #[.slice a len cap, .int .i64 i, .int .i64 off] w fun e w' => e = .returned (.bool true) ∧ Below w.heap.size w w' := by
  go_enter Try.func5, Try.ntmps5
  go_wp2_with (go_at_call 14; refine (zzBytes14_any _ _ _ _ _ _ hl).mono ?_; rintro e w' ⟨rfl, rfl⟩)
  go_ret
  exact ⟨rfl, Below.refl _ _⟩

theorem oneCell_int (n : Int) : ∀ u ∈ [Value.int .i64 n], u.oneCell' = true := by
  intro u hu; simp at hu; subst hu; rfl

/-- What is handed in: nil, or a row of which the copy will be made. -/
def InRow (w : World) (a : Option Addr) (len cap : Nat) (l : List Int) : Prop :=
  (a = none ∧ len = 0 ∧ cap = 0 ∧ l = []) ∨ ∃ x w1 w2, a = some x ∧ l.length = len ∧
      (Instr.makeSlice 22 (.int .i64 (len : Int)) (.int .i64 (len : Int))).run Try.prog w = .ok (.slice (some ⟨w.heap.size, 0, none⟩) len len) w1 ∧
      (∀ ty, (Builtin.copy_ #[22, 22] ty #[.slice (some ⟨w.heap.size, 0, none⟩) len len, .slice (some x) len cap]).run Try.prog w1 = .ok (goInt len) w2) ∧
      Below w.heap.size w w2 ∧ w.heap.size < w2.heap.size ∧ Txt w2 (.slice (some ⟨w.heap.size, 0, none⟩) l.length l.length) l

set_option maxRecDepth 100000 in
set_option maxHeartbeats 4000000 in
theorem walk_main (a : Option Addr) (len cap : Nat) (l : List Int) (p : Nat) (ls : Int) (w : World) (hll : l.length = len) (hl : len ≤ 1048576) (hm : (p : Int) ≤ 9223372036854775807) (hin : InRow w a len cap l) :
    Calls Try.prog 5 #[.slice a len cap, .int .i64 p, .int .i64 ls] w fun e w' => e = .returned (.bool true) ∧ Below w.heap.size w w' := by
  subst hll
  have HIN := hid hin
  clear hin
  have q22 : ∀ (w : World) (a : Option Addr) (n c : Nat), (binOp .neq 22 (.slice a n c) (.slice none 0 0)).run Try.prog w = .ok (.bool (!a.isNone)) w := fun w a n c => run_neq_slice_nil w 22 5 a n c Try.underlying22
  go_enter Try.func5, Try.ntmps5
  go_upto_if 32 with (go_at_call 14; refine (zzBytes14_any _ _ _ _ _ _ hl).mono ?_; rintro e w' ⟨rfl, rfl⟩)
  go_cut [0, 32] (fun v _ wz => ∃ a' cap', v = .slice a' l.length cap' ∧ Txt wz v l ∧ Below w.heap.size w wz ∧ Old v wz.heap.size ∧ w.heap.size ≤ wz.heap.size ∧ l.length ≤ cap')
  case first =>
    rcases HIN.out with ⟨rfl, h2, rfl, rfl⟩ | ⟨x, w1, w2, rfl, _, hmk, hcp, hb, hs, ht⟩
    · go_wp2_with fail
      go_meet
      case rel => exact ⟨none, 0, rfl, .inl ⟨rfl, rfl⟩, Below.refl _ _, (by intro a len cap e; cases e), Nat.le_refl _, Nat.le_refl _⟩
    · have HB := hid hb; have HS := hid hs; have HT := hid ht
      clear hb hs ht
      go_wp2_with fail
      go_meet
      case rel => exact ⟨_, _, rfl, HT.out, HB.out, (by intro a len cap e; simp only [Value.slice.injEq, Option.some.injEq] at e; rw [← e.1]; exact HS.out), Nat.le_of_lt HS.out, Nat.le_refl _⟩
  case rest =>
    obtain ⟨a', cap', rfl, hT, hB, hOld, hsz, hcapl⟩ := hcut
    obtain ⟨wp, rfl⟩ : ∃ wp : World, wp = wc := ⟨_, rfl⟩
    have HT := hid hT; have HB := hid hB; have HO := hid hOld
    clear hT hB hOld HIN q22
    obtain ⟨B, hBe⟩ : ∃ B, B = wp.heap.size := ⟨_, rfl⟩
    obtain ⟨L, hL⟩ : ∃ L, L = lns l (l.length + 1) p := ⟨_, rfl⟩
    have HBE := hid hBe; have HL := hid hL
    clear hBe hL
    obtain ⟨i0, hi, hz0, hz1, hz2⟩ := info_parts info3
    have hcell : Hid (∀ W i, Below B wp W → i < l.length → ∃ b o, a' = some ⟨b, o, none⟩ ∧ W.cell? ⟨b, o + i, none⟩ = some (.int .u8 (byt l i))) := by
      intro W i hW hi
      have hT2 := HT.out.below hW (by rw [HBE.out]; exact HO.out)
      rcases hT2 with ⟨_, h⟩ | ⟨b, o, cp, hv, hc⟩
      · rw [h] at hi; simp at hi
      · simp only [Value.slice.injEq] at hv
        exact ⟨b, o, hv.1, hc i hi⟩
    go_upto_block 0 with fail
    go_cut [8, 9, 10] (fun v8 v9 v10 wz => R3 B wz v8 v9 v10 (L.map stV) (L.map enV) (L.map nxV) ∧ Below B wp wz)
    case first =>
      go_wp2_with fail
      go_loopg [8, 9, 10, 11] (l.length + 1) (fun f v8 v9 v10 v11 wr => ∃ (s : Nat) (P : List Ln), v11 = .int .i64 s ∧ P ++ lns l f s = L ∧ P.length + f = l.length + 1 ∧ l.length < s + f ∧ R3 B wr v8 v9 v10 (P.map stV) (P.map enV) (P.map nxV) ∧ Below B wp wr)
      case atStart => exact ⟨p, [], rfl, HL.out.symm, by simp, by omega, R3.nil _ _, Below.refl _ _⟩
      case round =>
        obtain ⟨s, P, rfl, hPL, hPf, hsf, hR, hb⟩ := hrel
        obtain ⟨fo, hfo⟩ : ∃ fo, fo = gk := ⟨_, rfl⟩
        rw [← hfo] at hPL hPf hsf
        have HFO := hid hfo; have HPL := hid hPL; have HPF := hid hPf
        have hPb : P.length ≤ l.length + 1 := by omega
        have hBs : B ≤ wr.heap.size := by have h1 := HBE.out; have h2 := hb.size; omega
        have Hb := hid hb
        clear hfo hPL hPf hb
        by_cases hs : s < l.length
        · obtain ⟨wo, hwo⟩ : ∃ wo, wo = wr := ⟨_, rfl⟩
          rw [← hwo] at hR hBs Hb ⊢
          clear hwo
          go_upto_block 2 with fail
          go_cut [12] (fun e wz => e = .int .i64 (eEnd l s) ∧ wo = wz)
          case first =>
            go_wp2_with fail
            go_loopg [12] (l.length - s) (fun g j w3 => ∃ o : Nat, j = .int .i64 o ∧ wo = w3 ∧ s ≤ o ∧ o ≤ l.length ∧ (∀ i, s ≤ i → i < o → endsB l i = false) ∧ g = l.length - o)
            case atStart => exact ⟨s, rfl, rfl, Nat.le_refl _, by omega, by intro i a b; omega, rfl⟩
            case round =>
              obtain ⟨o, rfl, rfl, ho1, ho2, hall, hg⟩ := hrel
              have HALL := hid hall
              have HG := hid hg
              clear hall hg
              by_cases hlt : o < l.length
              · obtain ⟨b, q, rfl, hc⟩ := hcell.out wo o Hb.out hlt
                obtain ⟨c, hcb⟩ : ∃ c, c = byt l o := ⟨_, rfl⟩
                rw [← hcb] at hc
                have HEB : Hid (endsB l o = isB c) := by show _ = _; rw [hcb]; simp [endsB, Nat.not_le.2 hlt]
                clear hcb
                cases hw : isB c
                · have GW := hid (zzIsBreak_any c wo)
                  rw [hw] at GW HEB
                  clear hw
                  go_wp2_with (go_at_call 15; refine GW.out.mono ?_; rintro e w3 ⟨rfl, rfl⟩)
                  go_roundg (l.length - (o + 1))
                  case measure => rw [HG.out]; omega
                  case rel =>
                    refine ⟨o + 1, by go_num, rfl, by omega, by omega, ?_, rfl⟩
                    intro i a b
                    by_cases hio : i = o
                    · subst hio; exact HEB.out
                    · exact HALL.out i a (by omega)
                · have GW := hid (zzIsBreak_any c wo)
                  rw [hw] at GW HEB
                  have HE := hid (eEnd_of l s o ho1 HALL.out HEB.out)
                  clear hw
                  go_wp2_with (go_at_call 15; refine GW.out.mono ?_; rintro e w3 ⟨rfl, rfl⟩)
                  go_meet
                  case rel => exact ⟨by rw [← HE.out], rfl⟩
              · have HE := hid (eEnd_of l s o ho1 HALL.out (endsB_ge l o (by omega)))
                go_wp2_with fail
                go_meet
                case rel => exact ⟨by rw [← HE.out], rfl⟩
          case rest =>
            obtain ⟨rfl, rfl⟩ := hcut
            obtain ⟨e, he⟩ : ∃ e, e = eEnd l s := ⟨_, rfl⟩
            have he1 := eEnd_ge l s
            have he2 := eEnd_le l s (by omega)
            rw [← he] at he1 he2 ⊢
            have HE := hid he
            clear he
            go_upto_region 18 with (at_builtin; refine wpList_append_own_at _ rfl (.tmp 60) (.tmp 62) 33 rfl B 3 i0 (.int .i64 0) 1 8 Try.underlying33 hi hz0 hz1 hz2 rfl (by decide) _ _ _ rfl (hR.o1.alloc _) ⟨wo.heap.size, 0, none⟩ 1 1 [.int .i64 s] rfl rfl (cell_one_new _ _ _) (oneCell_int _) (by simp [maxLen]; omega) (by simp; omega) (by simp; omega) ?_)
            intro v8 w1 hown hgrow _ hat
            have hR1 : R3 B w1 v8 u9 u10 (P.map stV ++ [.int .i64 s]) (P.map enV) (P.map nxV) := hR.app (by simpa using hown) hgrow (by simpa using hat)
            have hb1 : Below B wp w1 := below_app Hb.out hR.o1 hgrow (Nat.le_refl _) hBs
            have Hb1 := hid hb1
            have hBs1 : B ≤ w1.heap.size := by have h1 := HBE.out; have h2 := hb1.size; omega
            clear hown hgrow hat hb1 hR Hb hBs
            go_upto_region 19 with (at_builtin; refine wpList_append_own_at _ rfl (.tmp 64) (.tmp 66) 33 rfl B 3 i0 (.int .i64 0) 1 8 Try.underlying33 hi hz0 hz1 hz2 rfl (by decide) _ _ _ rfl (hR1.o2.alloc _) ⟨w1.heap.size, 0, none⟩ 1 1 [.int .i64 e] rfl rfl (cell_one_new _ _ _) (oneCell_int _) (by simp [maxLen]; omega) (by simp; omega) (by simp; omega) ?_)
            intro v9 w2 hown hgrow _ hat
            have hR2 : R3 B w2 v8 v9 u10 (P.map stV ++ [.int .i64 s]) (P.map enV ++ [.int .i64 e]) (P.map nxV) := (hR1.rot.app (by simpa using hown) hgrow (by simpa using hat)).rot.rot
            have hb2 : Below B wp w2 := below_app Hb1.out hR1.o2 hgrow (Nat.le_refl _) hBs1
            have Hb2 := hid hb2
            have hBs2 : B ≤ w2.heap.size := by have h1 := HBE.out; have h2 := hb2.size; omega
            clear hown hgrow hat hb2 hR1 Hb1 hBs1
            by_cases hel : e = l.length
            · have hel' : ((e : Int) == (l.length : Int)) = true := by rw [beq_iff_eq]; omega
              have HLAST : Hid (P ++ [⟨s, e, -1⟩] = L) := by
                have h := HPL.out
                rw [lns_last l fo s hsf hs (by rw [← HE.out]; omega), ← HE.out] at h
                exact h
              clear hel
              go_wp2_with (at_builtin; refine wpList_append_own_at _ rfl (.tmp 72) (.tmp 73) 33 rfl B 3 i0 (.int .i64 0) 1 8 Try.underlying33 hi hz0 hz1 hz2 rfl (by decide) _ _ _ rfl (hR2.o3.alloc _) ⟨w2.heap.size, 0, none⟩ 1 1 [.int .i64 (-1)] rfl rfl (cell_one_new _ _ _) (oneCell_int _) (by simp [maxLen]; omega) (by simp; omega) (by simp; omega) ?_)
              intro v10 w3 hown hgrow _ hat
              have hR3 : R3 B w3 v8 v9 v10 (P.map stV ++ [.int .i64 s]) (P.map enV ++ [.int .i64 e]) (P.map nxV ++ [.int .i64 (-1)]) := (hR2.rot.rot.app (by simpa using hown) hgrow (by simpa using hat)).rot
              have hb3 : Below B wp w3 := below_app Hb2.out hR2.o3 hgrow (Nat.le_refl _) hBs2
              have HR3 := hid hR3; have Hb3 := hid hb3
              clear hown hgrow hat hb3 hR2 hR3 Hb2 hBs2
              go_wp2_with fail
              go_meet
              case rel => exact ⟨by rw [← HLAST.out, List.map_append, List.map_append, List.map_append]; exact HR3.out, Hb3.out⟩
            · have hel' : ((e : Int) == (l.length : Int)) = false := by rw [beq_eq_false_iff_ne]; omega
              have HSTEP : Hid (P ++ ⟨s, e, nxt l e⟩ :: lns l (fo - 1) (nxt l e) = L) := by
                have h := HPL.out
                rw [lns_step l fo s hsf hs (by rw [← HE.out]; omega), ← HE.out] at h
                exact h
              have hlt : e < l.length := by omega
              have hEE : endsB l e = true := by rw [HE.out]; exact eEnd_stop l s
              have hgt := nxt_gt l e hEE hlt
              have hnle := nxt_le l e hlt
              have HEE := hid hEE
              clear hel hEE
              go_upto_region 22 with fail
              go_cut [96] (fun x wz => x = .bool (nxt l e == e + 2) ∧ w2 = wz)
              case first =>
                obtain ⟨b, q, rfl, hc⟩ := hcell.out w2 e Hb2.out hlt
                obtain ⟨c, hcb⟩ : ∃ c, c = byt l e := ⟨_, rfl⟩
                rw [← hcb] at hc
                cases h13 : (c == 13)
                · have HN : Hid ((nxt l e == e + 2) = false) := by
                    show _ = _
                    have h10 : c = 10 := by
                      have := HEE.out
                      simp [endsB, Nat.not_le.2 hlt, isB, ← hcb] at this
                      rcases this with h | h
                      · exact h
                      · rw [h] at h13; cases h13
                    exact nxt2_lf l e (by rw [← hcb]; exact h10)
                  clear hcb
                  go_wp2_with fail
                  go_meet
                  case rel => exact ⟨by rw [HN.out], rfl⟩
                · have hc13 : c = 13 := by simpa using h13
                  by_cases h1 : e + 1 < l.length
                  · obtain ⟨b', q', hbq, hc'⟩ := hcell.out w2 (e + 1) Hb2.out h1
                    simp only [Option.some.injEq, Addr.mk.injEq] at hbq
                    obtain ⟨rfl, rfl, -⟩ := hbq
                    obtain ⟨d, hd⟩ : ∃ d, d = byt l (e + 1) := ⟨_, rfl⟩
                    rw [← hd] at hc'
                    have HN : Hid ((nxt l e == e + 2) = (d == 10)) := by
                      show _ = _
                      rw [nxt2_cr l e (by rw [← hcb]; exact hc13), hd]
                    have h1' : ((e : Int) + 1 < (l.length : Int)) := by omega
                    clear hcb hd hc13
                    go_wp2_with fail
                    go_meet
                    case rel => exact ⟨by rw [HN.out], rfl⟩
                  · have HN : Hid ((nxt l e == e + 2) = false) := by
                      show _ = _
                      rw [nxt2_cr l e (by rw [← hcb]; exact hc13), byt_ge l (e + 1) (by omega)]; rfl
                    have h1' : ¬ ((e : Int) + 1 < (l.length : Int)) := by omega
                    clear hcb hc13
                    go_wp2_with fail
                    go_meet
                    case rel => exact ⟨by rw [HN.out], rfl⟩
              case rest =>
                obtain ⟨rfl, rfl⟩ := hcut
                go_upto_if 96 with fail
                go_cut [13, 96] (fun x _ wz => x = .int .i64 (nxt l e) ∧ w2 = wz)
                case first =>
                  have hbr := brk_range l e
                  cases hn : (nxt l e == e + 2)
                  · have HN : Hid (((nxt l e : Nat) : Int) = e + 1) := by
                      show _ = _
                      simp at hn
                      unfold nxt at hn hgt ⊢
                      omega
                    clear hn
                    go_wp2_with fail
                    go_meet
                    case rel => exact ⟨by rw [HN.out], rfl⟩
                  · have HN : Hid (((nxt l e : Nat) : Int) = e + 2) := by
                      show _ = _
                      simp at hn
                      omega
                    clear hn
                    go_wp2_with fail
                    go_meet
                    case rel => exact ⟨by rw [HN.out], rfl⟩
                case rest =>
                  obtain ⟨rfl, rfl⟩ := hcut
                  go_upto_region 25 with (at_builtin; refine wpList_append_own_at _ rfl (.tmp 99) (.tmp 101) 33 rfl B 3 i0 (.int .i64 0) 1 8 Try.underlying33 hi hz0 hz1 hz2 rfl (by decide) _ _ _ rfl (hR2.o3.alloc _) ⟨w2.heap.size, 0, none⟩ 1 1 [.int .i64 (nxt l e)] rfl rfl (cell_one_new _ _ _) (oneCell_int _) (by simp [maxLen]; omega) (by simp; omega) (by simp; omega) ?_)
                  intro v10 w3 hown hgrow _ hat
                  have hR3 : R3 B w3 v8 v9 v10 (P.map stV ++ [.int .i64 s]) (P.map enV ++ [.int .i64 e]) (P.map nxV ++ [.int .i64 (nxt l e)]) := (hR2.rot.rot.app (by simpa using hown) hgrow (by simpa using hat)).rot
                  have hb3 : Below B wp w3 := below_app Hb2.out hR2.o3 hgrow (Nat.le_refl _) hBs2
                  have HR3 := hid hR3; have Hb3 := hid hb3
                  clear hown hgrow hat hb3 hR2 hR3 Hb2 hBs2
                  go_wp2_with fail
                  go_roundg (fo - 1)
                  case measure => rw [← HFO.out]; omega
                  case rel =>
                    refine ⟨nxt l e, P ++ [⟨s, e, nxt l e⟩], rfl, ?_, ?_, ?_, ?_, Hb3.out⟩
                    · rw [List.append_assoc]; exact HSTEP.out
                    · have := HPF.out; simp; omega
                    · omega
                    · rw [List.map_append, List.map_append, List.map_append]; exact HR3.out
        · have HLAST : Hid (P = L) := by
            have h := HPL.out
            rw [lns_ge l fo s (by omega), List.append_nil] at h
            exact h
          go_wp2_with fail
          go_meet
          case rel => exact ⟨by rw [← HLAST.out]; exact hR, Hb.out⟩
    case rest =>
      obtain ⟨hR, hb⟩ := hcut
      obtain ⟨a8, c8, rfl, hf8⟩ := own_formL L stV hR.o1
      obtain ⟨a9, c9, rfl, hf9⟩ := own_formL L enV hR.o2
      obtain ⟨a10, c10, rfl, hf10⟩ := own_formL L nxV hR.o3
      have HF8 := hid hf8; have HF9 := hid hf9; have HF10 := hid hf10; have Hb := hid hb
      clear hf8 hf9 hf10 hb hR hi hz0 hz1 hz2
      have HMEM : Hid (∀ t ∈ L, t.st < l.length ∧ t.st ≤ t.en ∧ t.en ≤ l.length ∧ -1 ≤ t.nx ∧ t.nx ≤ l.length) := by
        intro t ht; rw [HL.out] at ht; exact lns_mem l _ _ t ht
      have HLAW : Hid (cl l (l.length + 1) p ls = (wpos l L p, lsAt L (fi l L) ls)) := by
        show _ = _
        rw [HL.out]; exact model_law l _ _ _ (by omega)
      have hLb : (L.length : Int) ≤ 2097152 := by
        have := lns_len l (l.length + 1) p
        rw [← HL.out] at this
        omega
      obtain ⟨wq, rfl⟩ : ∃ wq : World, wq = wc := ⟨_, rfl⟩
      go_upto_block 4 with fail
      go_cut [15, 16] (fun x _ wz => x = .int .i64 (fi l L) ∧ ∃ n, wz = wq.drewN n)
      case first =>
        go_wp2_with fail
        go_loopg [15, 16] (L.length + 1) (fun g x y w3 => ∃ (k j n : Nat), x = .int .i64 k ∧ y = .int .i64 j ∧ w3 = wq.drewN n ∧ j ≤ L.length ∧ ((k = L.length ∧ ∀ i (h : i < L.length), i < j → Base.blank l (L[i]'h) = true) ∨ (k = fi l L ∧ k < L.length)) ∧ g = L.length + 1 - j)
        case atStart => exact ⟨L.length, 0, 0, rfl, rfl, rfl, Nat.zero_le _, .inl ⟨rfl, by intro i _ h; omega⟩, rfl⟩
        case round =>
          obtain ⟨k, j, n, rfl, rfl, hw, hj, hst, hg⟩ := hrel
          have HW := hid hw; have HG := hid hg
          clear hw hg
          rcases hst with ⟨rfl, hall⟩ | ⟨hk, hkl⟩
          · have HALL := hid hall
            clear hall
            by_cases hlt : j < L.length
            · obtain ⟨t, ht⟩ : ∃ t, t = L[j]'hlt := ⟨_, rfl⟩
              obtain ⟨g8, e8, h8⟩ := HF8.out j hlt
              obtain ⟨g9, e9, h9⟩ := HF9.out j hlt
              obtain ⟨m1, m2, m3, m4, m5⟩ := HMEM.out t (by rw [ht]; exact List.getElem_mem hlt)
              rw [← ht] at h8 h9
              have HTJ := hid ht
              clear ht
              subst e8 e9
              have h8' : wr.cell? ⟨g8, j, none⟩ = some (.int .i64 t.st) := by rw [HW.out]; exact h8
              have h9' : wr.cell? ⟨g9, j, none⟩ = some (.int .i64 t.en) := by rw [HW.out]; exact h9
              clear h8 h9
              obtain ⟨b, o, ha, _⟩ := hcell.out wq 0 Hb.out (by omega)
              subst ha
              have hcl : ∀ i, i < l.length → wr.cell? ⟨b, o + i, none⟩ = some (.int .u8 (byt l i)) := by
                intro i hi
                obtain ⟨b', o', e, h⟩ := hcell.out wq i Hb.out hi
                simp only [Option.some.injEq, Addr.mk.injEq] at e
                obtain ⟨rfl, rfl, -⟩ := e
                rw [HW.out]; exact h
              have hpl := part_len l t.st t.en m3
              have hbl := fun m => blank_any (some ⟨b, o + t.st, none⟩) (cap' - t.st) ((l.take t.en).drop t.st) (wr.drewN m) (by rw [hpl]; omega) ((Txt.part hcl t.st t.en m2 m3 hpl).drewN m)
              rw [hpl] at hbl
              have GBL : Hid (∀ m, Calls Try.prog 16 #[.slice (some ⟨b, o + t.st, none⟩) (t.en - t.st) (cap' - t.st)] (wr.drewN m) fun e w' => e = .returned (.bool (Base.blank l t)) ∧ w' = wr.drewN m) := hbl
              clear hcl hpl hbl
              obtain ⟨st, hst⟩ : ∃ st, st = t.st := ⟨_, rfl⟩
              obtain ⟨en, hen⟩ : ∃ en, en = t.en := ⟨_, rfl⟩
              rw [← hst] at h8' GBL m1 m2
              rw [← hen] at h9' GBL m2 m3
              clear hst hen m4 m5
              have hcn : ¬ cap' = st := by omega
              have hec : en ≤ cap' := by omega
              cases hbb : Base.blank l t
              · rw [hbb] at GBL
                have HF : Hid (j = fi l L) := by
                  refine fi_of l L j (by omega) (fun i h hi => HALL.out i h hi) (fun h => ?_)
                  rw [← HTJ.out]; exact hbb
                clear hbb
                go_wp2_with fail
                go_quiet ((go_at_call 16; exact Calls.quiet_of_same (GBL.out _)))
                go_wp2_with fail
                go_roundg (L.length + 1 - (j + 1))
                case measure => rw [HG.out]; omega
                case rel => exact ⟨j, j + 1, n + nq, rfl, by go_num, by rw [HW.out, World.drewN_drewN], by omega, .inr ⟨HF.out, hlt⟩, rfl⟩
              · rw [hbb] at GBL
                have HBB := hid hbb
                clear hbb
                go_wp2_with fail
                go_quiet ((go_at_call 16; exact Calls.quiet_of_same (GBL.out _)))
                go_wp2_with fail
                go_roundg (L.length + 1 - (j + 1))
                case measure => rw [HG.out]; omega
                case rel =>
                  refine ⟨L.length, j + 1, n + nq, rfl, by go_num, by rw [HW.out, World.drewN_drewN], by omega, .inl ⟨rfl, ?_⟩, rfl⟩
                  intro i h hi
                  by_cases hij : i = j
                  · subst hij; rw [← HTJ.out]; exact HBB.out
                  · exact HALL.out i h (by omega)
            · have HF : Hid (L.length = fi l L) := fi_of l L L.length (Nat.le_refl _) (fun i h hi => HALL.out i h (by omega)) (fun h => by omega)
              go_wp2_with fail
              go_meet
              case rel => exact ⟨by rw [← HF.out], n, HW.out⟩
          · have HK := hid hk
            have hne : ((k : Int) == (L.length : Int)) = false := by rw [beq_eq_false_iff_ne]; omega
            clear hk
            by_cases hlt : j < L.length
            · go_wp2_with fail
              go_meet
              case rel => exact ⟨by rw [HK.out], n, HW.out⟩
            · go_wp2_with fail
              go_meet
              case rel => exact ⟨by rw [HK.out], n, HW.out⟩
      case rest =>
        obtain ⟨rfl, n, hwn⟩ := hcut
        obtain ⟨k, hk⟩ : ∃ k, k = fi l L := ⟨_, rfl⟩
        have hkl := fi_le l L
        rw [← hk] at hkl ⊢
        have HK := hid hk
        have HWN := hid hwn
        clear hk hwn
        obtain ⟨wx, rfl⟩ : ∃ wx : World, wx = wc := ⟨_, rfl⟩
        go_upto_if 133 with fail
        go_cut [17, 133] (fun x _ wz => x = .int .i64 (wpos l L p) ∧ wx = wz)
        case first =>
          by_cases hlt : k < L.length
          · obtain ⟨g8, e8, h8⟩ := HF8.out k hlt
            subst e8
            have h8' : wx.cell? ⟨g8, k, none⟩ = some (.int .i64 (L[k]'hlt).st) := by rw [HWN.out]; exact h8
            have HP : Hid (wpos l L p = (L[k]'hlt).st) := by show _ = _; unfold wpos; rw [← HK.out, List.getElem?_eq_getElem hlt]; rfl
            clear h8
            generalize (L[k]'hlt).st = st at h8' HP
            go_wp2_with fail
            go_meet
            case rel => exact ⟨by rw [HP.out], rfl⟩
          · by_cases h0 : 0 < L.length
            · have HP : Hid (wpos l L p = l.length) := by show _ = _; unfold wpos; rw [← HK.out, List.getElem?_eq_none (by omega)]; simp [h0]
              go_wp2_with fail
              go_meet
              case rel => exact ⟨by rw [HP.out], rfl⟩
            · have HP : Hid (wpos l L p = p) := by show _ = _; unfold wpos; rw [← HK.out, List.getElem?_eq_none (by omega)]; simp [h0]
              go_wp2_with fail
              go_meet
              case rel => exact ⟨by rw [HP.out], rfl⟩
        case rest =>
          obtain ⟨rfl, rfl⟩ := hcut
          obtain ⟨wps, hwps⟩ : ∃ wps, wps = wpos l L p := ⟨_, rfl⟩
          rw [← hwps] at HLAW ⊢
          clear hwps
          go_upto_block 6 with fail
          go_cut [18, 19] (fun x _ wz => x = .int .i64 (lsAt L k ls) ∧ wx = wz)
          case first =>
            go_wp2_with fail
            go_loopg [18, 19] (k + 1) (fun g x y w3 => ∃ j : Nat, x = .int .i64 (lsAt L j ls) ∧ y = .int .i64 j ∧ wx = w3 ∧ j ≤ k ∧ g = k + 1 - j)
            case atStart => exact ⟨0, by simp [lsAt], rfl, rfl, Nat.zero_le _, rfl⟩
            case round =>
              obtain ⟨j, rfl, rfl, rfl, hjk, hg⟩ := hrel
              have HG := hid hg
              clear hg
              obtain ⟨y, hy⟩ : ∃ y, y = lsAt L j ls := ⟨_, rfl⟩
              rw [← hy]
              have HY := hid hy
              clear hy
              by_cases hlt : j < k
              · have hjl : j < L.length := by omega
                obtain ⟨g10, e10, h10⟩ := HF10.out j hjl
                subst e10
                have hS := lsAt_succ L j ls hjl
                rw [← HY.out] at hS
                have hm := (HMEM.out _ (List.getElem_mem hjl)).2.2.2
                have h10' : wx.cell? ⟨g10, j, none⟩ = some (.int .i64 (L[j]'hjl).nx) := by rw [HWN.out]; exact h10
                clear h10
                generalize (L[j]'hjl).nx = nx at h10' hS hm
                have HS := hid hS
                clear hS
                by_cases h0 : 0 ≤ nx
                · go_wp2_with fail
                  go_roundg (k + 1 - (j + 1))
                  case measure => rw [HG.out]; omega
                  case rel => exact ⟨j + 1, by rw [HS.out, if_pos h0], by go_num, rfl, by omega, rfl⟩
                · go_wp2_with fail
                  go_roundg (k + 1 - (j + 1))
                  case measure => rw [HG.out]; omega
                  case rel => exact ⟨j + 1, by rw [HS.out, if_neg (by omega)], by go_num, rfl, by omega, rfl⟩
              · obtain rfl : j = k := by omega
                go_wp2_with fail
                go_meet
                case rel => exact ⟨by rw [HY.out], rfl⟩
          case rest =>
            obtain ⟨rfl, rfl⟩ := hcut
            have hlaw := HLAW.out
            rw [← HK.out] at hlaw
            have HLAW2 := hid hlaw
            clear hlaw
            obtain ⟨lz, hlz⟩ : ∃ lz, lz = lsAt L k ls := ⟨_, rfl⟩
            rw [← hlz] at HLAW2 ⊢
            clear hlz
            have hBx : Below B wp wx := by rw [HWN.out]; exact below_drewN Hb.out n
            rw [HBE.out] at hBx
            have hTx := HT.out.below hBx HO.out
            have hszx : wp.heap.size ≤ wx.heap.size := hBx.size
            have hOx : Old (.slice a' l.length cap') wx.heap.size := HO.out.mono hszx
            have hBwx : Below w.heap.size w wx := HB.out.trans (hBx.mono hsz)
            have HTX := hid hTx; have HOX := hid hOx; have HBX := hid hBwx
            clear hBx hTx hOx hBwx
            go_wp2_with fail
            refine (newPar_any _ _ _ _ _ _ _ _).mono ?_
            rintro e wA ⟨rfl, hPA, hbA, hsA⟩
            have hBA : Below w.heap.size w wA := HBX.out.trans (hbA.mono (by omega))
            have hTA : Txt wA (.slice a' l.length cap') l := HTX.out.below hbA HOX.out
            have hap : Apart (.slice a' l.length cap') wx.heap.size := HOX.out.apart (Nat.le_refl _)
            have HPA := hid hPA; have HBA := hid hBA; have HTA := hid hTA; have HAP := hid hap
            clear hPA hBA hTA hap hbA hsA
            go_wp2_with fail
            refine (zzComment_any _ _ l p ls wA hl HPA.out HTA.out HAP.out (wps, lz) HLAW2.out).mono ?_
            rintro e wB ⟨rfl, hPB, hOB⟩
            have hBB : Below w.heap.size w wB := hOB.below HBA.out (by omega)
            have HPB := hid hPB; have HBB := hid hBB
            clear hPB hOB hBB
            go_wp2_with fail
            refine (zzPos_any _ _ _ _ _ HPB.out).mono ?_
            rintro e w3 ⟨rfl, rfl⟩
            go_wp2_with fail
            refine (zzLine_any _ _ _ _ _ HPB.out).mono ?_
            rintro e w4 ⟨rfl, rfl⟩
            go_wp2_with fail
            go_ret
            exact ⟨rfl, HBB.out⟩
end Go.Proofs.Qxb6617969a.Model
