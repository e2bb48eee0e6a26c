import Derived.Test.Qxb6617969aRows
import Derived.WalkKit
import Derived.ProofKit
import Derived.Below
namespace Go.Proofs.Qxb6617969a.Base
open Go.RowKit

/-- The byte at k of a text, 0 past its end. -/
def byt (l : List Int) (k : Nat) : Int := l.getD k 0

/-- What 'breakAt' answers. -/
def brk (l : List Int) (k : Nat) : Int :=
  if byt l k = 10 then 1 else if byt l k = 13 then (if byt l (k + 1) = 10 then 2 else 1) else 0

/-- The slice value v holds the text l in world w. -/
def Txt (w : World) (v : Value) (l : List Int) : Prop :=
  (v = .slice none 0 0 ∧ l = []) ∨
  ∃ b o cap, v = .slice (some ⟨b, o, none⟩) l.length cap ∧ ∀ i, i < l.length → w.cell? ⟨b, o + i, none⟩ = some (.int .u8 (byt l i))

set_option maxHeartbeats 400000 in
theorem byteAt_in (pb b o len cap off : Nat) (c : Int) (w : World) (hlt : off < len)
    (hp : w.cell? ⟨pb, 0, none⟩ = some (.slice (some ⟨b, o, none⟩) len cap)) (hc : w.cell? ⟨b, o + off, none⟩ = some (.int .u8 c)) :
    Calls Try.prog 26 #[.pointer (some ⟨pb, 0, none⟩), .int .i64 off] w fun e w' => e = .returned (.int .u8 c) ∧ w' = w := by
  go_enter Try.func26, Try.ntmps26
  go_wp2
  go_ret
  exact ⟨rfl, rfl⟩

set_option maxHeartbeats 400000 in
theorem byteAt_out (pb len cap : Nat) (a : Option Addr) (off : Int) (w : World) (hlt : ¬ off < len)
    (hp : w.cell? ⟨pb, 0, none⟩ = some (.slice a len cap)) :
    Calls Try.prog 26 #[.pointer (some ⟨pb, 0, none⟩), .int .i64 off] w fun e w' => e = .returned (.int .u8 0) ∧ w' = w := by
  go_enter Try.func26, Try.ntmps26
  go_wp2
  go_ret
  exact ⟨rfl, rfl⟩

theorem byteAt_any (pb : Nat) (v : Value) (l : List Int) (off : Int) (w : World) (h0 : 0 ≤ off)
    (hp : w.cell? ⟨pb, 0, none⟩ = some v) (ht : Txt w v l) :
    Calls Try.prog 26 #[.pointer (some ⟨pb, 0, none⟩), .int .i64 off] w fun e w' => e = .returned (.int .u8 (byt l off.toNat)) ∧ w' = w := by
  obtain ⟨n, rfl⟩ := Int.eq_ofNat_of_zero_le h0
  rw [Int.toNat_natCast]
  rcases ht with ⟨rfl, rfl⟩ | ⟨b, o, cap, rfl, hc⟩
  · have e : byt [] n = 0 := by simp [byt]
    rw [e]
    exact byteAt_out pb 0 0 none _ w (by omega) hp
  · by_cases hlt : n < l.length
    · exact byteAt_in pb b o l.length cap n _ w hlt hp (hc n hlt)
    · have e : byt l n = 0 := by simp [byt]; rw [List.getElem?_eq_none (by omega)]; rfl
      rw [e]
      exact byteAt_out pb l.length cap _ _ w (by omega) hp

theorem byt_ge (l : List Int) (k : Nat) (h : l.length ≤ k) : byt l k = 0 := by simp [byt]; rw [List.getElem?_eq_none (by omega)]; rfl

set_option maxHeartbeats 400000 in
theorem breakAt_any (pb : Nat) (v : Value) (l : List Int) (off : Int) (w : World) (h0 : 0 ≤ off) (hl : l.length ≤ 1048576)
    (hp : w.cell? ⟨pb, 0, none⟩ = some v) (ht : Txt w v l) :
    Calls Try.prog 22 #[.pointer (some ⟨pb, 0, none⟩), .int .i64 off] w fun e w' => e = .returned (.int .i64 (brk l off.toNat)) ∧ w' = w := by
  have hA := byteAt_any pb v l off w h0 hp ht
  by_cases h1 : byt l off.toNat = 10
  · have e : brk l off.toNat = 1 := by simp [brk, h1]
    rw [e]
    rw [h1] at hA
    clear e h1
    go_enter Try.func22, Try.ntmps22
    go_wp2_with (go_at_call 26; refine hA.mono ?_; rintro e w' ⟨rfl, rfl⟩)
    go_ret
    exact ⟨rfl, rfl⟩
  · by_cases h2 : byt l off.toNat = 13
    · have hlt : off < 1048576 := by
        by_cases hh : off < 1048576
        · exact hh
        · have := byt_ge l off.toNat (by omega); omega
      have hB := byteAt_any pb v l (off + 1) w (by omega) hp ht
      have e2 : (off + 1).toNat = off.toNat + 1 := by omega
      rw [e2] at hB
      rw [h2] at hA
      by_cases h3 : byt l (off.toNat + 1) = 10
      · have e : brk l off.toNat = 2 := by simp [brk, h2, h3]
        rw [e]
        rw [h3] at hB
        clear e h1 h2 h3 e2
        go_enter Try.func22, Try.ntmps22
        go_wp2_with fail
        refine hA.mono ?_
        rintro e w' ⟨rfl, rfl⟩
        go_wp2_with fail
        refine hB.mono ?_
        rintro e w' ⟨rfl, rfl⟩
        go_wp2_with fail
        go_ret
        exact ⟨rfl, rfl⟩
      · have e : brk l off.toNat = 1 := by simp [brk, h2, h3]
        rw [e]
        generalize byt l (off.toNat + 1) = x at hB h3
        have h3' : (x == 10) = false := by simpa using h3
        clear e h1 h2 h3 e2
        go_enter Try.func22, Try.ntmps22
        go_wp2_with fail
        refine hA.mono ?_
        rintro e w' ⟨rfl, rfl⟩
        go_wp2_with fail
        refine hB.mono ?_
        rintro e w' ⟨rfl, rfl⟩
        go_wp2_with fail
        go_ret
        exact ⟨rfl, rfl⟩
    · have e : brk l off.toNat = 0 := by simp [brk, h1, h2]
      rw [e]
      generalize byt l off.toNat = x at hA h1 h2
      have h1' : (x == 10) = false := by simpa using h1
      have h2' : (x == 13) = false := by simpa using h2
      clear e h1 h2
      go_enter Try.func22, Try.ntmps22
      go_wp2_with (go_at_call 26; refine hA.mono ?_; rintro e w' ⟨rfl, rfl⟩)
      go_ret
      exact ⟨rfl, rfl⟩

theorem zzBreakAt_any (pb : Nat) (v : Value) (l : List Int) (off : Int) (w : World) (h0 : 0 ≤ off) (hl : l.length ≤ 1048576)
    (hp : w.cell? ⟨pb, 0, none⟩ = some v) (ht : Txt w v l) :
    Calls Try.prog 9 #[.pointer (some ⟨pb, 0, none⟩), .int .i64 off] w fun e w' => e = .returned (.int .i64 (brk l off.toNat)) ∧ w' = w := by
  have hA := breakAt_any pb v l off w h0 hl hp ht
  go_enter Try.func9, Try.ntmps9
  go_wp2_with (go_at_call 22; refine hA.mono ?_; rintro e w' ⟨rfl, rfl⟩)
  go_ret
  exact ⟨rfl, rfl⟩

theorem newParser_any (a : Option Addr) (len cap : Nat) (pos ls d md : Int) (w : World) :
    Calls Try.prog 10 #[.slice a len cap, .int .i64 pos, .int .i64 ls, .int .i64 d, .int .i64 md] w fun e w' =>
      e = .returned (.pointer (some ⟨w.heap.size, 0, none⟩)) ∧ w' = w.alloc (.cells #[.slice a len cap, .int .i64 pos, .int .i64 ls, .int .i64 d, .int .i64 md, .map none] 49) := by
  go_enter Try.func10, Try.ntmps10
  go_wp2
  go_ret
  exact ⟨rfl, rfl⟩

theorem zzBytes7_any (a : Option Addr) (len cap : Nat) (i off : Int) (w : World) (hl : len ≤ 1048576) :
    Calls Try.prog 7 #[.slice a len cap, .int .i64 i, .int .i64 off] w fun e w' => e = .returned (.bool true) ∧ w' = w := by
  go_enter Try.func7, Try.ntmps7
  go_wp2
  go_ret
  exact ⟨rfl, rfl⟩
theorem zzBytes7_not (a : Option Addr) (len cap : Nat) (i off : Int) (w : World) (hl : 1048576 < len) :
    Calls Try.prog 7 #[.slice a len cap, .int .i64 i, .int .i64 off] w fun e w' => e = .returned (.bool false) ∧ w' = w := by
  go_enter Try.func7, Try.ntmps7
  go_wp2
  go_ret
  exact ⟨rfl, rfl⟩
end Go.Proofs.Qxb6617969a.Base
