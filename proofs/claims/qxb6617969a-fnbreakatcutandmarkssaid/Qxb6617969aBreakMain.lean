import Derived.Test.Qxb6617969aBreakWalk
namespace Go.Proofs.Qxb6617969a.Base
open Go.RowKit

/-- The break straddles the cut. -/
def stB (l : List Int) (i k : Nat) : Bool := decide (k + 1 = i ∧ byt l k = 13 ∧ i < l.length ∧ byt l i = 10)
theorem stB_iff (l : List Int) (i k : Nat) : stB l i k = true ↔ strad l i k := by simp [stB, strad]

theorem zzBreakAt_nat (v : Value) (l : List Int) (off : Nat) (hl : l.length ≤ 1048576) (W : World) (pb : Nat) (hp : W.cell? ⟨pb, 0, none⟩ = some v) (ht : Txt W v l) :
    Calls Try.prog 9 #[.pointer (some ⟨pb, 0, none⟩), .int .i64 off] W fun e w' => e = .returned (.int .i64 (brk l off)) ∧ w' = W := by
  have h := zzBreakAt_any pb v l off W (by omega) hl hp ht
  rw [Int.toNat_natCast] at h
  exact h

set_option maxRecDepth 100000 in
set_option maxHeartbeats 1000000 in
theorem walk_main (x : Addr) (len cap : Nat) (zs : List Int) (i off : Nat) (w : World) (hl : len ≤ 1048576) (hi : i ≤ len) (hm : (off : Int) ≤ 9223372036854775807) (hlc : len ≤ cap) (hz : zs.length = cap)
    (hc : ∀ j, j < zs.length → w.cell? (x.add j) = some (.int .u8 (zs.getD j 0))) :
    Calls Try.prog 3 #[.slice (some x) len cap, .int .i64 i, .int .i64 off] w fun e w' => e = .returned (.bool true) ∧ Below w.heap.size w w' := by
  obtain ⟨w1, w2, hmk, hcp, hB, hsz, hcell⟩ := copy_runs x len cap zs w hl hlc hz hc
  have hlen : (zs.take len).length = len := by simp; omega
  obtain ⟨l, hlz⟩ : ∃ l, l = zs.take len := ⟨_, rfl⟩
  rw [← hlz] at hcell hlen
  clear hlz hc hlc hz
  have tx : Txt w2 (.slice (some ⟨w.heap.size, 0, none⟩) l.length l.length) l := .inr ⟨_, 0, _, rfl, hcell⟩
  subst hlen
  have G1 := hid fun W (ht : Txt W (.slice (some ⟨w.heap.size, 0, none⟩) l.length l.length) l) => hm_any _ l off CRLF W (by omega) hl (by decide) (by decide) ht
  have G2 := hid fun W (ht : Txt W (.slice (some ⟨w.heap.size, 0, none⟩) l.length l.length) l) => hm_any _ l off CR W (by omega) hl (by decide) (by decide) ht
  have G3 := hid fun W (ht : Txt W (.slice (some ⟨w.heap.size, 0, none⟩) l.length l.length) l) => hm_any _ l off LF W (by omega) hl (by decide) (by decide) ht
  rw [Int.toNat_natCast] at G1 G2 G3
  have HCELL := hid hcell
  clear hcell
  go_enter Try.func3, Try.ntmps3
  go_upto_if 45 with (first | (go_at_call 7; refine (zzBytes7_any _ _ _ _ _ _ (by omega)).mono ?_; rintro e w' ⟨rfl, rfl⟩) | (go_at_call 8; refine (G1.out _ tx).mono ?_; rintro e w' ⟨rfl, n1, rfl⟩))
  go_cut [8] (fun v wz => v = .int .i64 (brk l off) ∧ ∃ n, wz = w2.drewN n)
  case first =>
    cases h1 : hmB l off CRLF
    · cases h2 : hmB l off CR
      · cases h3 : hmB l off LF
        · have Hb := hid (brk_zero l off h2 h3)
          rw [h2] at G2; rw [h3] at G3
          clear h1 h2 h3 G1
          go_wp2_with fail
          refine (G2.out _ (tx.drewN n1)).mono ?_
          rintro e w' ⟨rfl, n2, rfl⟩
          go_wp2_with fail
          refine (G3.out _ (tx.drewN (n1 + n2))).mono ?_
          rintro e w' ⟨rfl, n3, rfl⟩
          go_wp2_with fail
          go_meet
          case rel => exact ⟨by rw [Hb.out], _, rfl⟩
        · have Hb := hid (brk_one l off h1 (.inr h3))
          rw [h2] at G2; rw [h3] at G3
          clear h1 h2 h3 G1
          go_wp2_with fail
          refine (G2.out _ (tx.drewN n1)).mono ?_
          rintro e w' ⟨rfl, n2, rfl⟩
          go_wp2_with fail
          refine (G3.out _ (tx.drewN (n1 + n2))).mono ?_
          rintro e w' ⟨rfl, n3, rfl⟩
          go_wp2_with fail
          go_meet
          case rel => exact ⟨by rw [Hb.out], _, rfl⟩
      · have Hb := hid (brk_one l off h1 (.inl h2))
        rw [h2] at G2
        clear h1 h2 G1 G3
        go_wp2_with fail
        refine (G2.out _ (tx.drewN n1)).mono ?_
        rintro e w' ⟨rfl, n2, rfl⟩
        go_wp2_with fail
        go_meet
        case rel => exact ⟨by rw [Hb.out], _, rfl⟩
    · have Hb := hid (brk_two l off h1)
      clear h1 G1 G2 G3
      go_wp2_with fail
      go_meet
      case rel => exact ⟨by rw [Hb.out], _, rfl⟩
  case rest =>
    obtain ⟨rfl, n, rfl⟩ := hcut
    clear G1 G2 G3
    go_upto_region 16 with fail
    go_cut [9] (fun v wz => v = .bool (stB l i off) ∧ wz = w2.drewN n)
    case first =>
      by_cases h1 : off + 1 = i
      · have h1' : ((off : Int) == (i : Int) - 1) = true := by rw [beq_iff_eq]; omega
        have hc1 := HCELL.out off (by omega)
        rw [Nat.zero_add] at hc1
        have hol : off < l.length := by omega
        have H1 := hid h1
        clear h1
        obtain ⟨c, hc⟩ : ∃ c, c = byt l off := ⟨_, rfl⟩
        rw [← hc] at hc1
        by_cases h2 : c = 13
        · subst h2
          have H13 := hid hc
          clear hc
          by_cases h3 : i < l.length
          · have hc2 := HCELL.out i h3
            rw [Nat.zero_add] at hc2
            obtain ⟨d, hd⟩ : ∃ d, d = byt l i := ⟨_, rfl⟩
            rw [← hd] at hc2
            have Hst : Hid (stB l i off = (d == 10)) := by
              show _ = _
              rw [Bool.eq_iff_iff]; simp [stB, ← H13.out, h3, ← hd, H1.out]
            clear hd
            go_wp2
            go_meet
            case rel => exact ⟨by rw [Hst.out], rfl⟩
          · have Hst : Hid (stB l i off = false) := by show _ = _; simp [stB, h3]
            go_wp2
            go_meet
            case rel => exact ⟨by rw [Hst.out], rfl⟩
        · have h2' : (c == 13) = false := by simpa using h2
          have Hst : Hid (stB l i off = false) := by show _ = _; simp [stB, ← hc, h2]
          clear hc
          go_wp2
          go_meet
          case rel => exact ⟨by rw [Hst.out], rfl⟩
      · have h1' : ((off : Int) == (i : Int) - 1) = false := by rw [beq_eq_false_iff_ne]; omega
        have Hst : Hid (stB l i off = false) := by show _ = _; simp [stB, h1]
        clear h1
        go_wp2
        go_meet
        case rel => exact ⟨by rw [Hst.out], rfl⟩
    case rest =>
      obtain ⟨rfl, rfl⟩ := hcut
      have b1 := brk_range l off
      have GK := hid (zzBreakAt_nat (.slice (some ⟨w'.heap.size, 0, none⟩) l.length l.length) l off hl)
      clear hmk hcp
      have hBn : Below w'.heap.size w' (w2.drewN n) := below_drewN hB n
      have HBn := hid hBn
      clear hBn hB
      by_cases hio : i ≤ off
      · have GD := hid fun v => zzBreakAt_nat v (l.drop i) (off - i) (by simp; omega)
        rw [brk_drop l i off hio] at GD
        have hsub : ((off : Int) - (i : Int)) = ((off - i : Nat) : Int) := by omega
        have HS := hid hsub
        clear hsub
        by_cases hil : l.length = i
        · have hdr : l.drop i = [] := List.drop_eq_nil_of_le (by omega)
          have HT : Hid (∀ W, Txt W (.slice (some ⟨w'.heap.size, 0, none⟩) 0 0) (l.drop i)) := by
            intro W; rw [hdr]; exact .inr ⟨_, 0, 0, rfl, by intro j hj; simp at hj⟩
          clear hdr
          subst hil
          go_wp2_with fail
          refine (newParser_any _ _ _ _ _ _ _ _).mono ?_
          rintro e w3 ⟨rfl, rfl⟩
          go_wp2_with fail
          refine (GK.out _ _ ?_ ?_).mono ?_
          · exact cell_par _ _ _ _ _ _ _ (by simp)
          · exact ((tx.drewN n).alloc _)
          rintro e w3 ⟨rfl, rfl⟩
          go_wp2_with fail
          refine (newParser_any _ _ _ _ _ _ _ _).mono ?_
          rintro e w3 ⟨rfl, rfl⟩
          go_wp2_with fail
          rw [HS.out]
          refine (GD.out (.slice (some ⟨w'.heap.size, 0, none⟩) 0 0) _ _ ?_ ?_).mono ?_
          · exact cell_par _ _ _ _ _ _ _ (by simp)
          · exact HT.out _
          rintro e w3 ⟨rfl, rfl⟩
          go_wp2_with fail
          go_ret
          exact ⟨rfl, (HBn.out.alloc (by simp; omega) _).alloc (by simp; omega) _⟩
        · have HT : Hid (∀ W, Txt W (.slice (some ⟨w'.heap.size, 0, none⟩) l.length l.length) l → Txt W (.slice (some ⟨w'.heap.size, i, none⟩) (l.length - i) (l.length - i)) (l.drop i)) := by
            intro W hW
            rcases hW with ⟨hW, _⟩ | ⟨b, o, cap, hv, hcl⟩
            · cases hW
            · simp only [Value.slice.injEq, Option.some.injEq, Addr.mk.injEq] at hv
              obtain ⟨⟨rfl, rfl, -⟩, -, rfl⟩ := hv
              refine .inr ⟨_, i, _, by rw [List.length_drop], ?_⟩
              intro j hj
              rw [List.length_drop] at hj
              have := hcl (i + j) (by omega)
              rw [Nat.zero_add] at this
              rw [byt_drop]; exact this
          go_wp2_with fail
          refine (newParser_any _ _ _ _ _ _ _ _).mono ?_
          rintro e w3 ⟨rfl, rfl⟩
          go_wp2_with fail
          refine (GK.out _ _ ?_ ?_).mono ?_
          · exact cell_par _ _ _ _ _ _ _ (by simp)
          · exact ((tx.drewN n).alloc _)
          rintro e w3 ⟨rfl, rfl⟩
          go_wp2_with fail
          refine (newParser_any _ _ _ _ _ _ _ _).mono ?_
          rintro e w3 ⟨rfl, rfl⟩
          go_wp2_with fail
          rw [HS.out]
          refine (GD.out (.slice (some ⟨w'.heap.size, i, none⟩) (l.length - i) (l.length - i)) _ _ ?_ ?_).mono ?_
          · exact cell_par _ _ _ _ _ _ _ (by simp)
          · exact HT.out _ (((tx.drewN n).alloc _).alloc _)
          rintro e w3 ⟨rfl, rfl⟩
          go_wp2_with fail
          go_ret
          exact ⟨rfl, (HBn.out.alloc (by simp; omega) _).alloc (by simp; omega) _⟩
      · have GT := hid fun v => zzBreakAt_nat v (l.take i) off (by simp; omega)
        have HT : Hid (∀ W, Txt W (.slice (some ⟨w'.heap.size, 0, none⟩) l.length l.length) l → Txt W (.slice (some ⟨w'.heap.size, 0, none⟩) i l.length) (l.take i)) := by
          intro W hW
          rcases hW with ⟨hW, _⟩ | ⟨b, o, cap, hv, hcl⟩
          · cases hW
          · simp only [Value.slice.injEq, Option.some.injEq, Addr.mk.injEq] at hv
            obtain ⟨⟨rfl, rfl, -⟩, -, rfl⟩ := hv
            refine .inr ⟨_, 0, l.length, by rw [List.length_take, Nat.min_eq_left hi], ?_⟩
            intro j hj
            rw [List.length_take, Nat.min_eq_left hi] at hj
            rw [byt_take l i j hj]
            exact hcl j (by omega)
        cases hst : stB l i off
        · have hns : ¬ strad l i off := by rw [← stB_iff, hst]; simp
          rw [brk_take l i off (by omega) hns] at GT
          clear hst hns
          go_wp2_with fail
          refine (newParser_any _ _ _ _ _ _ _ _).mono ?_
          rintro e w3 ⟨rfl, rfl⟩
          go_wp2_with fail
          refine (GK.out _ _ ?_ ?_).mono ?_
          · exact cell_par _ _ _ _ _ _ _ (by simp)
          · exact ((tx.drewN n).alloc _)
          rintro e w3 ⟨rfl, rfl⟩
          go_wp2_with fail
          refine (newParser_any _ _ _ _ _ _ _ _).mono ?_
          rintro e w3 ⟨rfl, rfl⟩
          go_wp2_with fail
          refine (GT.out (.slice (some ⟨w'.heap.size, 0, none⟩) i l.length) _ _ ?_ ?_).mono ?_
          · exact cell_par _ _ _ _ _ _ _ (by simp)
          · exact HT.out _ (((tx.drewN n).alloc _).alloc _)
          rintro e w3 ⟨rfl, rfl⟩
          go_wp2_with fail
          go_ret
          exact ⟨rfl, (HBn.out.alloc (by simp; omega) _).alloc (by simp; omega) _⟩
        · have hs := brk_straddle l i off ((stB_iff l i off).1 hst)
          rw [hs.1] at GT
          rw [hs.2] at GK
          clear b1
          rw [hs.2]
          clear hs hst
          go_wp2_with fail
          refine (newParser_any _ _ _ _ _ _ _ _).mono ?_
          rintro e w3 ⟨rfl, rfl⟩
          go_wp2_with fail
          refine (GK.out _ _ ?_ ?_).mono ?_
          · exact cell_par _ _ _ _ _ _ _ (by simp)
          · exact ((tx.drewN n).alloc _)
          rintro e w3 ⟨rfl, rfl⟩
          go_wp2_with fail
          refine (newParser_any _ _ _ _ _ _ _ _).mono ?_
          rintro e w3 ⟨rfl, rfl⟩
          go_wp2_with fail
          refine (GT.out (.slice (some ⟨w'.heap.size, 0, none⟩) i l.length) _ _ ?_ ?_).mono ?_
          · exact cell_par _ _ _ _ _ _ _ (by simp)
          · exact HT.out _ (((tx.drewN n).alloc _).alloc _)
          rintro e w3 ⟨rfl, rfl⟩
          go_wp2_with fail
          go_ret
          exact ⟨rfl, (HBn.out.alloc (by simp; omega) _).alloc (by simp; omega) _⟩
end Go.Proofs.Qxb6617969a.Base
