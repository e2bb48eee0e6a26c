import Derived.Test.Qxb6617992aDir
namespace Go.Proofs.Qxb6617992a.Dir
open Go.RowKit

/-- How many of the bytes below k are let. -/
def cnt : Nat → Nat
  | 0 => 0
  | k + 1 => cnt k + if dirB k then 1 else 0
theorem cnt_le : ∀ k, cnt k ≤ k
  | 0 => Nat.le_refl _
  | k + 1 => by have := cnt_le k; unfold cnt; split <;> omega
theorem cnt_256 : cnt 256 = 66 := by decide +kernel

theorem conv_one (W : World) (c : Nat) : (convert 33 9 (.slice (some ⟨W.heap.size, 0, none⟩) 1 1)).run Try.prog (W.alloc (.cells #[.int .u8 (c : Int)] 5)) = .ok (.string (strOfNums [(c : Int)])) (W.alloc (.cells #[.int .u8 (c : Int)] 5)) := by
  refine run_convert_bytes_arg (P := Try.prog) _ 33 5 Try.underlying33 Try.underlying5 W.heap.size 0 1 1 [(c : Int)] rfl ?_ 9 Try.underlying9
  intro i hi
  obtain rfl : i = 0 := by omega
  simp

theorem extract_dn (s : ByteArray) (k : Nat) (h : k < s.size) : (s.extract k (k + 1)).size = 1 ∧ dn (s.extract k (k + 1)) = dirB (nb s k) := by
  have hs : (s.extract k (k + 1)).size = 1 := by rw [ByteArray.size_extract]; omega
  have hn : nb (s.extract k (k + 1)) 0 = nb s k := by
    unfold nb
    rw [dif_pos (by omega), dif_pos h, ByteArray.getElem_extract]
    rfl
  refine ⟨hs, ?_⟩
  unfold dn
  rw [hs, Bool.eq_iff_iff]
  simp only [decide_eq_true_eq]
  constructor
  · intro ⟨_, _, h⟩; have := h 0 (by omega); rwa [hn] at this
  · intro h
    refine ⟨by omega, by omega, ?_⟩
    intro k hk
    obtain rfl : k = 0 := by omega
    rw [hn]; exact h

theorem one_dn (c : Nat) (h : c < 256) : dn (strOfNums [(c : Int)]) = dirB (c : Int) := by
  have hs : (strOfNums [(c : Int)]).size = 1 := by rw [strOfNums_size]; rfl
  have hn : nb (strOfNums [(c : Int)]) 0 = c := by
    unfold nb
    rw [dif_pos (by omega)]
    have : (strOfNums [(c : Int)])[0]'(by omega) = UInt8.ofNat c := rfl
    rw [this]
    simp
    omega
  unfold dn
  rw [hs, Bool.eq_iff_iff]
  simp only [decide_eq_true_eq]
  constructor
  · intro ⟨_, _, h⟩; have := h 0 (by omega); rwa [hn] at this
  · intro h
    refine ⟨by omega, by omega, ?_⟩
    intro k hk
    obtain rfl : k = 0 := by omega
    rw [hn]; exact h

set_option maxHeartbeats 1000000 in
theorem walk_long (s : ByteArray) (w : World) (h : 65536 < s.size) (hm : (s.size : Int) ≤ 9223372036854775807) :
    Calls Try.prog 5 #[.string s] w fun e w' => e = .returned (.bool true) ∧ Grown w w' := by
  by_cases h2 : s.size ≤ 1048576
  · go_enter Try.func5, Try.ntmps5
    go_wp2_with (go_at_call 11; refine (zzBytes_any _ _ h2).mono ?_; rintro e w' ⟨rfl, rfl⟩)
    go_ret
    exact ⟨rfl, Grown.refl _⟩
  · go_enter Try.func5, Try.ntmps5
    go_wp2_with (go_at_call 11; refine (zzBytes_not _ _ (by omega) hm).mono ?_; rintro e w' ⟨rfl, rfl⟩)
    go_ret
    exact ⟨rfl, Grown.refl _⟩

set_option maxRecDepth 100000 in
set_option maxHeartbeats 1000000 in
theorem walk_main (s : ByteArray) (w : World) (h : s.size ≤ 65536) :
    Calls Try.prog 5 #[.string s] w fun e w' => e = .returned (.bool true) ∧ Grown w w' := by
  have hE := empty_of s
  go_enter Try.func5, Try.ntmps5
  go_upto_block 0 with (go_at_call 11; refine (zzBytes_any _ _ (by omega)).mono ?_; rintro e w' ⟨rfl, rfl⟩)
  go_cut [3, 4] (fun x _ wz => x = .int .i64 66 ∧ Grown w wz)
  case first =>
    go_wp2_with fail
    go_loopg [3, 4] 256 (fun g x y w3 => ∃ c : Nat, x = .int .i64 (cnt c) ∧ y = .int .i64 c ∧ c ≤ 256 ∧ Grown w w3 ∧ g = 256 - c)
    case atStart => exact ⟨0, rfl, rfl, by omega, Grown.refl _, rfl⟩
    case round =>
      obtain ⟨c, rfl, rfl, hc, hb, hg⟩ := hrel
      have HB := hid hb; have HG := hid hg
      clear hb hg
      have hcl := cnt_le c
      by_cases hlt : c < 256
      · have hcv := conv_one wr c
        have hd := one_dn c hlt
        have GD := hid (zzIsDirName_any (strOfNums [(c : Int)]) (wr.alloc (.cells #[.int .u8 (c : Int)] 5)) (by rw [strOfNums_size]; simp))
        rw [hd] at GD
        clear hd
        cases hdc : dirB (c : Int)
        · rw [hdc] at GD
          have HC : Hid (cnt (c + 1) = cnt c) := by show _ = _; simp [cnt, hdc]
          clear hdc
          go_wp2_with (go_at_call 12; refine GD.out.mono ?_; rintro e w3 ⟨rfl, rfl⟩)
          go_roundg (256 - (c + 1))
          case measure => rw [HG.out]; omega
          case rel => exact ⟨c + 1, by rw [HC.out], by go_num, by omega, HB.out.alloc _ _, rfl⟩
        · rw [hdc] at GD
          have HC : Hid (cnt (c + 1) = cnt c + 1) := by show _ = _; simp [cnt, hdc]
          clear hdc
          go_wp2_with (go_at_call 12; refine GD.out.mono ?_; rintro e w3 ⟨rfl, rfl⟩)
          go_roundg (256 - (c + 1))
          case measure => rw [HG.out]; omega
          case rel => exact ⟨c + 1, by rw [HC.out]; go_num, by go_num, by omega, HB.out.alloc _ _, rfl⟩
      · obtain rfl : c = 256 := by omega
        have h66 := cnt_256
        go_wp2_with fail
        go_meet
        case rel => exact ⟨by rw [cnt_256]; rfl, HB.out⟩
  case rest =>
    obtain ⟨rfl, hb⟩ := hcut
    have HB := hid hb
    clear hb
    obtain ⟨b0, hb0⟩ : ∃ b0, b0 = decide (0 < s.size ∧ s.size ≤ 128) := ⟨_, rfl⟩
    have HB0 := hid hb0
    clear hb0
    go_upto_region 13 with fail
    go_cut [5] (fun x wz => x = .bool b0 ∧ wc = wz)
    case first =>
      by_cases h0 : s.size = 0
      · have hE' : s.toList.isEmpty = true := by rw [hE]; simpa using h0
        have HZ : Hid (b0 = false) := by show _ = _; rw [HB0.out]; simp [h0]
        clear hE h0
        go_wp2_with fail
        go_meet
        case rel => exact ⟨by rw [HZ.out], rfl⟩
      · have hE' : s.toList.isEmpty = false := by rw [hE]; simpa using h0
        have HZ : Hid (b0 = decide ((s.size : Int) ≤ 128)) := by
          show _ = _; rw [HB0.out, Bool.eq_iff_iff]; simp; omega
        clear hE h0
        go_wp2_with fail
        go_meet
        case rel => exact ⟨by rw [HZ.out], rfl⟩
    case rest =>
      obtain ⟨rfl, rfl⟩ := hcut
      go_upto_block 2 with fail
      go_cut [5, 6] (fun x _ wz => x = .bool (dn s) ∧ wc = wz)
      case first =>
        go_wp2_with fail
        go_loopg [5, 6] (s.size + 1) (fun g x y w3 => ∃ (k : Nat) (b : Bool), x = .bool b ∧ y = .int .i64 k ∧ wc = w3 ∧ k ≤ s.size ∧ (b = true → 0 < s.size ∧ s.size ≤ 128 ∧ ∀ i, i < k → dirB (nb s i) = true) ∧ (b = false → dn s = false) ∧ g = s.size + 1 - k)
        case atStart =>
          refine ⟨0, b0, rfl, rfl, rfl, Nat.zero_le _, ?_, ?_, rfl⟩
          · intro hb
            have := HB0.out
            rw [hb] at this
            simp at this
            exact ⟨this.1, this.2, by intro i hi; omega⟩
          · intro hb
            have := HB0.out
            rw [hb] at this
            simp at this
            simp [dn]
            omega
        case round =>
          obtain ⟨k, b, rfl, rfl, rfl, hk, hy, hn, hg⟩ := hrel
          have HY := hid hy; have HN := hid hn; have HG := hid hg
          clear hy hn hg
          cases b
          · have HD := hid (HN.out rfl)
            go_wp2_with fail
            go_meet
            case rel => exact ⟨by rw [HD.out], rfl⟩
          · obtain ⟨y1, y2, hall⟩ := HY.out rfl
            have HALL := hid hall
            clear hall
            by_cases hlt : k < s.size
            · have hx := extract_dn s k hlt
              have GD := hid (zzIsDirName_any (s.extract k (k + 1)) wc (by omega))
              rw [hx.2] at GD
              clear hx
              cases hd : dirB (nb s k)
              · rw [hd] at GD
                have HD : Hid (dn s = false) := by
                  show _ = _
                  simp only [dn, decide_eq_false_iff_not]
                  intro ⟨_, _, h⟩
                  have := h k hlt
                  rw [hd] at this; cases this
                clear hd
                go_wp2_with (go_at_call 12; refine GD.out.mono ?_; rintro e w3 ⟨rfl, rfl⟩)
                go_roundg (s.size + 1 - (k + 1))
                case measure => rw [HG.out]; omega
                case rel => exact ⟨k + 1, false, rfl, by go_num, rfl, by omega, (fun h => by cases h), (fun _ => HD.out), rfl⟩
              · rw [hd] at GD
                have HD := hid hd
                clear hd
                go_wp2_with (go_at_call 12; refine GD.out.mono ?_; rintro e w3 ⟨rfl, rfl⟩)
                go_roundg (s.size + 1 - (k + 1))
                case measure => rw [HG.out]; omega
                case rel =>
                  refine ⟨k + 1, true, rfl, by go_num, rfl, by omega, (fun _ => ⟨y1, y2, ?_⟩), (fun h => by cases h), rfl⟩
                  intro i hi
                  by_cases hik : i = k
                  · subst hik; exact HD.out
                  · exact HALL.out i (by omega)
            · have HD : Hid (dn s = true) := by
                show _ = _
                simp only [dn, decide_eq_true_eq]
                exact ⟨y1, y2, fun i hi => HALL.out i (by omega)⟩
              go_wp2_with fail
              go_meet
              case rel => exact ⟨by rw [HD.out], rfl⟩
      case rest =>
        obtain ⟨rfl, rfl⟩ := hcut
        have GD := hid (zzIsDirName_any s wc (by omega))
        generalize dn s = bb at GD
        go_wp2_with (go_at_call 12; refine GD.out.mono ?_; rintro e w3 ⟨rfl, rfl⟩)
        go_ret
        exact ⟨ret_bool (by simp), HB.out⟩
end Go.Proofs.Qxb6617992a.Dir
