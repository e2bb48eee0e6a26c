import Derived.Test.Qxb6617969aBase
import Derived.BigQuiet
import Derived.Deep.QuietTactic
namespace Go.Proofs.Qxb6617969a.Base
open Go.RowKit

/-- The byte at k of a mark. -/
def mkb (s : ByteArray) (k : Nat) : Int := if h : k < s.size then ((s[k]'h).toNat : Int) else 0

/-- What 'zzHasMark' answers. -/
def hmB (l : List Int) (off : Nat) (s : ByteArray) : Bool := decide (off + s.size ≤ l.length ∧ ∀ j, j < s.size → byt l (off + j) = mkb s j)

theorem hm_far (v : Value) (a : Option Addr) (len cap : Nat) (off : Int) (s : ByteArray) (w : World) (h0 : 0 ≤ off) (hl : len ≤ 1048576) (hf : (len : Int) < off + s.size) (hv : v = .slice a len cap) :
    Calls Try.prog 8 #[v, .int .i64 off, .string s] w fun e w' => e = .returned (.bool false) ∧ ∃ n, w' = w.drewN n := by
  subst hv
  by_cases h1 : (len : Int) < off
  · go_enter Try.func8, Try.ntmps8
    go_wp2
    go_ret
    exact ⟨rfl, 0, rfl⟩
  · go_enter Try.func8, Try.ntmps8
    go_wp2
    go_ret
    exact ⟨rfl, 0, rfl⟩

set_option maxHeartbeats 1000000 in
theorem hm_near (b o cap : Nat) (l : List Int) (off : Nat) (s : ByteArray) (w : World) (hl : l.length ≤ 1048576) (hs : s.size ≤ 2) (hf : off + s.size ≤ l.length)
    (hc : ∀ i, i < l.length → w.cell? ⟨b, o + i, none⟩ = some (.int .u8 (byt l i))) :
    Calls Try.prog 8 #[.slice (some ⟨b, o, none⟩) l.length cap, .int .i64 off, .string s] w fun e w' => e = .returned (.bool (hmB l off s)) ∧ ∃ n, w' = w.drewN n := by
  have HC : Hid (∀ i, i < l.length → w.cell? ⟨b, o + i, none⟩ = some (.int .u8 (byt l i))) := hc
  clear hc
  go_enter Try.func8, Try.ntmps8
  go_wp2
  go_loopw [7] (fun j wr => ∃ k n : Nat, k ≤ s.size ∧ j = .int .i64 k ∧ wr = w.drewN n ∧ ∀ i, i < k → byt l (off + i) = mkb s i) (fun j _ => s.size - (intOf j).toNat)
  case atStart => exact ⟨0, 0, Nat.zero_le _, rfl, rfl, by intro i hi; omega⟩
  case round =>
    obtain ⟨k, n, hk, rfl, hw, hall⟩ := hrel
    have HW : Hid (wr = w.drewN n) := hw
    have HA : Hid (∀ i, i < k → byt l (off + i) = mkb s i) := hall
    clear hw hall
    by_cases hlt : k < s.size
    · have hcell : wr.cell? ⟨b, o + (off + k), none⟩ = some (.int .u8 (byt l (off + k))) := by
        rw [HW.out]; exact HC.out (off + k) (by omega)
      obtain ⟨x, hx⟩ : ∃ x, x = byt l (off + k) := ⟨_, rfl⟩
      rw [← hx] at hcell
      have HX : Hid (x = byt l (off + k)) := hx
      clear hx
      have hxb : x = mkb s k ∨ ¬ x = mkb s k := Decidable.em _
      have hmk : mkb s k = ((s[k]'hlt).toNat : Int) := by simp [mkb, hlt]
      rcases hxb with hxb | hxb
      · rw [hmk] at hxb
        have hne : (x != ((s[k]'hlt).toNat : Int)) = false := by simpa using hxb
        have HE : Hid (byt l (off + k) = mkb s k) := by show _ = _; rw [hmk, ← hxb, HX.out]
        clear hxb hmk
        go_wp2
        go_quiet (fail)
        go_wp2
        go_roundw
        case rel =>
          refine ⟨k + 1, n + nq, by omega, by go_num, by rw [HW.out, World.drewN_drewN], ?_⟩
          intro i hi
          by_cases hik : i < k
          · exact HA.out i hik
          · obtain rfl : i = k := by omega
            exact HE.out
        case measure => simp [intOf]; omega
      · rw [hmk] at hxb
        have hne : (x != ((s[k]'hlt).toNat : Int)) = true := by simpa using hxb
        have HE : Hid (¬ byt l (off + k) = mkb s k) := by show ¬ _; rw [hmk, ← HX.out]; exact hxb
        clear hxb hmk
        go_wp2
        go_quiet (fail)
        go_wp2
        go_ret
        refine ⟨?_, n + nq, by rw [HW.out, World.drewN_drewN]⟩
        have : hmB l off s = false := by
          simp only [hmB, decide_eq_false_iff_not, not_and]
          intro _ h
          exact HE.out (h k hlt)
        rw [this]; rfl
    · go_wp2
      go_ret
      refine ⟨?_, n, HW.out⟩
      have : hmB l off s = true := by
        simp only [hmB, decide_eq_true_eq]
        exact ⟨hf, fun j hj => HA.out j (by omega)⟩
      rw [this]; rfl

theorem hm_any (v : Value) (l : List Int) (off : Int) (s : ByteArray) (w : World) (h0 : 0 ≤ off) (hl : l.length ≤ 1048576) (hs : s.size ≤ 2) (h1 : 0 < s.size) (ht : Txt w v l) :
    Calls Try.prog 8 #[v, .int .i64 off, .string s] w fun e w' => e = .returned (.bool (hmB l off.toNat s)) ∧ ∃ n, w' = w.drewN n := by
  obtain ⟨o, rfl⟩ := Int.eq_ofNat_of_zero_le h0
  rw [Int.toNat_natCast]
  by_cases hf : o + s.size ≤ l.length
  · rcases ht with ⟨rfl, rfl⟩ | ⟨b, q, cap, rfl, hc⟩
    · have : ([] : List Int).length = 0 := rfl
      omega
    · exact hm_near b q cap l o s w hl hs hf hc
  · have e : hmB l o s = false := by simp only [hmB, decide_eq_false_iff_not, not_and]; intro h; exact absurd h hf
    rw [e]
    rcases ht with ⟨rfl, rfl⟩ | ⟨b, q, cap, rfl, hc⟩
    · exact hm_far _ none 0 0 o s w h0 (by omega) (by have : ([] : List Int).length = 0 := rfl; omega) rfl
    · exact hm_far _ _ l.length cap o s w h0 hl (by omega) rfl
end Go.Proofs.Qxb6617969a.Base
