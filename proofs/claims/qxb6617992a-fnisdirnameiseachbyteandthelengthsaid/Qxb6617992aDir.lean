import Derived.Test.Qxb6617992aRows
import Derived.WalkKit
import Derived.ProofKit
import Derived.Below
import Derived.WalkSpells
import Derived.WalkLawsBesides
import Derived.Deep.LoopGhost
import Derived.Deep.DeepCutAuto
import Derived.Deep.CutBlock
namespace Go.Proofs.Qxb6617992a.Dir
open Go.RowKit

theorem hid {p : Prop} (h : p) : Hid p := h

def plainB (c : Int) : Bool := decide ((97 ≤ c ∧ c ≤ 122) ∨ (65 ≤ c ∧ c ≤ 90) ∨ (48 ≤ c ∧ c ≤ 57) ∨ c = 45 ∨ c = 95)
def dirB (c : Int) : Bool := decide ((97 ≤ c ∧ c ≤ 122) ∨ (65 ≤ c ∧ c ≤ 90) ∨ (48 ≤ c ∧ c ≤ 57) ∨ c = 45 ∨ c = 95 ∨ c = 37 ∨ c = 126)

theorem ret_bool {a b : Bool} (h : a = b) : Ending.returned (.bool a) = .returned (.bool b) := by rw [h]

set_option maxHeartbeats 1000000 in
theorem isPlain_any (c : Int) (w : World) : Calls Try.prog 15 #[.int .u8 c] w fun e w' => e = .returned (.bool (plainB c)) ∧ w' = w := by
  go_enter Try.func15, Try.ntmps15
  go_wp2
  all_goals
    go_ret
    refine ⟨ret_bool ?_, rfl⟩
    rw [Bool.eq_iff_iff]
    simp [plainB]
    try omega

theorem dirB_plain (c : Int) : dirB c = (plainB c || (c == 37) || (c == 126)) := by
  rw [Bool.eq_iff_iff]; simp [plainB, dirB]; omega

/-- The byte at k of a name. -/
def nb (s : ByteArray) (k : Nat) : Int := if h : k < s.size then ((s[k]'h).toNat : Int) else 0
/-- What 'isDirName' answers. -/
def dn (s : ByteArray) : Bool := decide (0 < s.size ∧ s.size ≤ 128 ∧ ∀ k, k < s.size → dirB (nb s k) = true)

theorem empty_of (s : ByteArray) : s.toList.isEmpty = decide (s.size = 0) := by
  rw [ByteArray.toList_eq, Bool.eq_iff_iff]
  simp only [List.isEmpty_iff, decide_eq_true_eq]
  constructor
  · intro h; have := congrArg List.length h; simpa using this
  · intro h; apply List.eq_nil_of_length_eq_zero; simpa using h

set_option maxHeartbeats 1000000 in
theorem isDirName_any (s : ByteArray) (w : World) (hs : s.size ≤ 1048576) : Calls Try.prog 14 #[.string s] w fun e w' => e = .returned (.bool (dn s)) ∧ w' = w := by
  have hE := empty_of s
  by_cases h0 : s.size = 0
  · have e : dn s = false := by simp [dn, h0]
    rw [e]
    have hE' : s.toList.isEmpty = true := by rw [hE]; simpa using h0
    clear e hE h0 hs
    go_enter Try.func14, Try.ntmps14
    go_wp2_with fail
    go_ret
    exact ⟨rfl, rfl⟩
  · have hE' : s.toList.isEmpty = false := by rw [hE]; simpa using h0
    have hpos : 0 < s.size := by omega
    clear hE h0
    by_cases h1 : 128 < s.size
    · have e : dn s = false := by simp [dn]; omega
      rw [e]
      clear e
      go_enter Try.func14, Try.ntmps14
      go_wp2_with fail
      go_ret
      exact ⟨rfl, rfl⟩
    · go_enter Try.func14, Try.ntmps14
      go_wp2_with fail
      go_loopg [3] (s.size) (fun g j w3 => ∃ k : Nat, j = .int .i64 k ∧ w = w3 ∧ k ≤ s.size ∧ (∀ i, i < k → dirB (nb s i) = true) ∧ g = s.size - k)
      case atStart => exact ⟨0, rfl, rfl, Nat.zero_le _, by intro i hi; omega, rfl⟩
      case round =>
        obtain ⟨k, rfl, rfl, hk, hall, hg⟩ := hrel
        have HALL := hid hall; have HG := hid hg
        clear hall hg
        by_cases hlt : k < s.size
        · have hnb : nb s k = ((s[k]'hlt).toNat : Int) := by simp [nb, hlt]
          have GP := hid (isPlain_any ((s[k]'hlt).toNat : Int) w)
          have hD := dirB_plain (nb s k)
          rw [hnb] at hD
          cases hp : plainB ((s[k]'hlt).toNat : Int)
          · rw [hp] at GP hD
            by_cases h37 : ((s[k]'hlt).toNat : Int) = 37
            · have h37' : (((s[k]'hlt).toNat : Int) != 37) = false := by simp [h37]
              have HD : Hid (dirB (nb s k) = true) := by show _ = _; rw [hnb, hD, h37]; rfl
              clear h37 hD hnb hp
              go_wp2_with (go_at_call 15; refine GP.out.mono ?_; rintro e w3 ⟨rfl, rfl⟩)
              go_roundg (s.size - (k + 1))
              case measure => rw [HG.out]; omega
              case rel =>
                refine ⟨k + 1, by go_num, rfl, by omega, ?_, rfl⟩
                intro i hi
                by_cases hik : i = k
                · subst hik; exact HD.out
                · exact HALL.out i (by omega)
            · have h37' : (((s[k]'hlt).toNat : Int) != 37) = true := by simpa using h37
              by_cases h126 : ((s[k]'hlt).toNat : Int) = 126
              · have h126' : (((s[k]'hlt).toNat : Int) != 126) = false := by simp [h126]
                have HD : Hid (dirB (nb s k) = true) := by show _ = _; rw [hnb, hD, h126]; rfl
                clear h37 h126 hD hnb hp
                go_wp2_with (go_at_call 15; refine GP.out.mono ?_; rintro e w3 ⟨rfl, rfl⟩)
                go_roundg (s.size - (k + 1))
                case measure => rw [HG.out]; omega
                case rel =>
                  refine ⟨k + 1, by go_num, rfl, by omega, ?_, rfl⟩
                  intro i hi
                  by_cases hik : i = k
                  · subst hik; exact HD.out
                  · exact HALL.out i (by omega)
              · have h126' : (((s[k]'hlt).toNat : Int) != 126) = true := by simpa using h126
                have HD : Hid (dirB (nb s k) = false) := by
                  show _ = _; rw [hnb, hD]
                  have e1 : (((s[k]'hlt).toNat : Int) == 37) = false := by simpa using h37
                  have e2 : (((s[k]'hlt).toNat : Int) == 126) = false := by simpa using h126
                  rw [e1, e2]; rfl
                clear h37 h126 hD hnb hp
                go_wp2_with (go_at_call 15; refine GP.out.mono ?_; rintro e w3 ⟨rfl, rfl⟩)
                go_ret
                have e : dn s = false := by
                  simp only [dn, decide_eq_false_iff_not]
                  intro ⟨_, _, h⟩
                  have := h k hlt
                  rw [HD.out] at this; cases this
                exact ⟨by rw [e]; rfl, rfl⟩
          · rw [hp] at GP hD
            have HD : Hid (dirB (nb s k) = true) := by show _ = _; rw [hnb, hD]; rfl
            clear hD hnb hp
            go_wp2_with (go_at_call 15; refine GP.out.mono ?_; rintro e w3 ⟨rfl, rfl⟩)
            go_roundg (s.size - (k + 1))
            case measure => rw [HG.out]; omega
            case rel =>
              refine ⟨k + 1, by go_num, rfl, by omega, ?_, rfl⟩
              intro i hi
              by_cases hik : i = k
              · subst hik; exact HD.out
              · exact HALL.out i (by omega)
        · go_wp2_with fail
          go_ret
          have e : dn s = true := by
            simp only [dn, decide_eq_true_eq]
            exact ⟨hpos, by omega, fun i hi => HALL.out i (by omega)⟩
          exact ⟨by rw [e]; rfl, rfl⟩

theorem zzIsDirName_any (s : ByteArray) (w : World) (hs : s.size ≤ 1048576) : Calls Try.prog 12 #[.string s] w fun e w' => e = .returned (.bool (dn s)) ∧ w' = w := by
  have G := hid (isDirName_any s w hs)
  go_enter Try.func12, Try.ntmps12
  go_wp2_with (go_at_call 14; refine G.out.mono ?_; rintro e w' ⟨rfl, rfl⟩)
  go_ret
  exact ⟨rfl, rfl⟩

theorem zzBytes_any (s : ByteArray) (w : World) (hs : s.size ≤ 1048576) : Calls Try.prog 11 #[.string s] w fun e w' => e = .returned (.bool true) ∧ w = w' := by
  go_enter Try.func11, Try.ntmps11
  go_wp2
  go_ret
  exact ⟨rfl, rfl⟩
theorem zzBytes_not (s : ByteArray) (w : World) (hs : 1048576 < s.size) (hm : (s.size : Int) ≤ 9223372036854775807) : Calls Try.prog 11 #[.string s] w fun e w' => e = .returned (.bool false) ∧ w = w' := by
  go_enter Try.func11, Try.ntmps11
  go_wp2
  go_ret
  exact ⟨rfl, rfl⟩
end Go.Proofs.Qxb6617992a.Dir
