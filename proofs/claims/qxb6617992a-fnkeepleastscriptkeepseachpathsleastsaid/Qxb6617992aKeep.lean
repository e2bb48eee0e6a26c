import Derived.Test.Qxb6617992aMaps
import Derived.Deep.LoopGhost
import Derived.Deep.DeepCutAuto
import Derived.Deep.CutBlock
namespace Go.Proofs.Qxb6617992a.Keep
open Go.RowKit Go.Maps

/-- 'm[s]'. -/
theorem IMap.look1 {w : World} {b n sz : Nat} {M : Tab} (h : IMap w b n M sz) {s : ByteArray} (hs : s.size ≤ maxLen) :
    (Instr.lookup 27 (.map (some b)) (.string s) false).run Try.prog w = .ok (.int .i64 ((M (key s)).getD 0)) w := by
  obtain ⟨D, h1, h2, h3, _⟩ := h
  obtain ⟨c, hrun, hc, _⟩ := h1.lookup_int law Try.underlying27 Try.underlying2 (zero2 w) (key_of hs)
  have h3' := h3 (key s)
  rw [hc] at h3'
  simp only [DataW.lit.injEq, Lit.int.injEq, true_and] at h3'
  rw [hrun, h3']

/-- The size behind 'keepLeast' or a store. -/
def grow (M : Tab) (k : Key) (sz : Nat) : Nat := if (M k).isSome then sz else sz + 1

set_option maxHeartbeats 1000000 in
theorem keepLeast_any (b n sz : Nat) (M : Tab) (s : ByteArray) (v : Int) (w : World) (hm : IMap w b n M sz) (hn : n < maxLen) (hs : s.size ≤ maxLen) (hv : (Lit.int .i64 v).wf = true) :
    Calls Try.prog 13 #[.map (some b), .string s, .int .i64 v] w fun e w' => e = .returned (.tuple #[]) ∧ IMap w' b (n + 1) (kl M (key s) v) (grow M (key s) sz) ∧ w.grownBy w' (some b) := by
  have hl := hm.look hs
  obtain ⟨w1, hst, hm1, hg1⟩ := hm.store hn hs hv
  have HM := hid hm; have HM1 := hid hm1; have HG1 := hid hg1
  clear hm hm1 hg1
  cases hM : M (key s) with
  | none =>
    rw [hM] at hl HM1
    simp only [Option.isSome_none, Option.getD_none] at hl
    have HR : Hid (kl M (key s) v = upd M (key s) v ∧ grow M (key s) sz = sz + 1) := by
      constructor
      · unfold kl; rw [hM]
      · unfold grow; rw [hM]; rfl
    clear hM
    go_enter Try.func13, Try.ntmps13
    go_wp2
    go_end0
    exact ⟨rfl, by rw [HR.out.1, HR.out.2]; exact HM1.out, HG1.out⟩
  | some u =>
    rw [hM] at hl HM1
    simp only [Option.isSome_some, Option.getD_some] at hl
    by_cases hlt : v < u
    · have HR : Hid (kl M (key s) v = upd M (key s) v ∧ grow M (key s) sz = sz) := by
        constructor
        · unfold kl; rw [hM]; simp [hlt]
        · unfold grow; rw [hM]; rfl
      clear hM
      go_enter Try.func13, Try.ntmps13
      go_wp2
      go_end0
      exact ⟨rfl, by rw [HR.out.1, HR.out.2]; exact HM1.out, HG1.out⟩
    · have HR : Hid (kl M (key s) v = M ∧ grow M (key s) sz = sz) := by
        constructor
        · unfold kl; rw [hM]; simp [hlt]
        · unfold grow; rw [hM]; rfl
      clear hM hst
      go_enter Try.func13, Try.ntmps13
      go_wp2
      go_end0
      exact ⟨rfl, by rw [HR.out.1, HR.out.2]; exact HM.out.mono (Nat.le_succ _), World.grownBy.refl _ _⟩

theorem zzKeep_any (b n sz : Nat) (M : Tab) (s : ByteArray) (v : Int) (w : World) (hm : IMap w b n M sz) (hn : n < maxLen) (hs : s.size ≤ maxLen) (hv : (Lit.int .i64 v).wf = true) :
    Calls Try.prog 9 #[.map (some b), .string s, .int .i64 v] w fun e w' => e = .returned (.tuple #[]) ∧ IMap w' b (n + 1) (kl M (key s) v) (grow M (key s) sz) ∧ w.grownBy w' (some b) := by
  have G := hid (keepLeast_any b n sz M s v w hm hn hs hv)
  clear hm
  go_enter Try.func9, Try.ntmps9
  go_wp2_with fail
  refine G.out.mono ?_
  rintro e w' ⟨rfl, h1, h2⟩
  have H1 := hid h1; have H2 := hid h2
  clear h1 h2
  go_wp2_with fail
  go_end0
  exact ⟨rfl, H1.out, H2.out⟩

/-- A slice of strings. -/
def Strs (w : World) (a : Option Addr) (len : Nat) (K : Nat → ByteArray) : Prop :=
  ∀ i, i < len → ∃ b o, a = some ⟨b, o, none⟩ ∧ w.cell? ⟨b, o + i, none⟩ = some (.string (K i)) ∧ (K i).size ≤ maxLen
/-- A slice of int64. -/
def Nums (w : World) (a : Option Addr) (len : Nat) (V : Nat → Int) : Prop :=
  ∀ i, i < len → ∃ b o, a = some ⟨b, o, none⟩ ∧ w.cell? ⟨b, o + i, none⟩ = some (.int .i64 (V i)) ∧ (Lit.int .i64 (V i)).wf = true

theorem Strs.below {w w' : World} {a : Option Addr} {len : Nat} {K : Nat → ByteArray} (h : Strs w a len K) (hb : Below w.heap.size w w') : Strs w' a len K := by
  intro i hi
  obtain ⟨b, o, e, hc, hs⟩ := h i hi
  exact ⟨b, o, e, (World.cell?_of_block (hb.block b (World.block_lt_of_cell? w _ hc))).trans hc, hs⟩
theorem Nums.below {w w' : World} {a : Option Addr} {len : Nat} {V : Nat → Int} (h : Nums w a len V) (hb : Below w.heap.size w w') : Nums w' a len V := by
  intro i hi
  obtain ⟨b, o, e, hc, hs⟩ := h i hi
  exact ⟨b, o, e, (World.cell?_of_block (hb.block b (World.block_lt_of_cell? w _ hc))).trans hc, hs⟩

theorem ret_any {k : IntKind} (z : Int) : ∃ r : Int, Ending.returned (.int k z) = .returned (.int k r) := ⟨z, rfl⟩

set_option maxHeartbeats 1000000 in
theorem spend_any (a : Option Addr) (len cap : Nat) (K : Nat → ByteArray) (room : Int) (w : World) (hl : len ≤ 1048576) (h : Strs w a len K) :
    Calls Try.prog 7 #[.slice a len cap, .int .i64 room] w fun e w' => (∃ r : Int, e = .returned (.int .i64 r)) ∧ w' = w := by
  have H := hid h
  clear h
  go_enter Try.func7, Try.ntmps7
  go_wp2_with fail
  go_loopg [1, 5] len (fun g x j w3 => ∃ (k : Nat) (z : Int), x = .int .i64 z ∧ j = .int .i64 k ∧ w = w3 ∧ k ≤ len ∧ g = len - k)
  case atStart => exact ⟨0, room, rfl, rfl, rfl, Nat.zero_le _, rfl⟩
  case round =>
    obtain ⟨k, z, rfl, rfl, rfl, hk, hg⟩ := hrel
    have HG := hid hg
    clear hg
    by_cases hlt : k < len
    · obtain ⟨b, o, rfl, hc, _⟩ := H.out k hlt
      go_wp2_with fail
      · go_ret
        exact ⟨ret_any _, rfl⟩
      · go_roundg (len - (k + 1))
        case measure => rw [HG.out]; omega
        case rel => exact ⟨k + 1, _, rfl, by go_num, rfl, by omega, rfl⟩
    · go_wp2_with fail
      go_ret
      exact ⟨ret_any _, rfl⟩

theorem min_any (a b : Nat) (w : World) : Calls Try.prog 8 #[.int .i64 a, .int .i64 b] w fun e w' => e = .returned (.int .i64 (min a b : Nat)) ∧ w' = w := by
  by_cases h : a < b
  · have e : min a b = a := by omega
    rw [e]
    clear e
    go_enter Try.func8, Try.ntmps8
    go_wp2
    go_ret
    exact ⟨rfl, rfl⟩
  · have e : min a b = b := by omega
    rw [e]
    clear e
    go_enter Try.func8, Try.ntmps8
    go_wp2
    go_ret
    exact ⟨rfl, rfl⟩

theorem ret_any_bool (z : Bool) : ∃ r : Bool, Ending.returned (.bool z) = .returned (.bool r) := ⟨z, rfl⟩

set_option maxRecDepth 100000 in
set_option maxHeartbeats 1000000 in
theorem zzBytes6_any (a : Option Addr) (len cap : Nat) (K : Nat → ByteArray) (a' : Option Addr) (len' cap' : Nat) (s : ByteArray) (x y : Int) (w : World) (hl : len ≤ maxLen) (h : Strs w a len K) :
    Calls Try.prog 6 #[.slice a len cap, .slice a' len' cap', .string s, .int .i64 x, .int .i64 y] w fun e w' => (∃ r : Bool, e = .returned (.bool r)) ∧ w' = w := by
  have H := hid h
  clear h
  unfold maxLen at hl
  by_cases h1 : 1048576 < len
  · go_enter Try.func6, Try.ntmps6
    go_wp2_with fail
    go_ret
    exact ⟨ret_any_bool _, rfl⟩
  go_enter Try.func6, Try.ntmps6
  go_upto_block 0 with fail
  go_cut [11, 12] (fun x _ wz => (∃ z : Int, x = .int .i64 z) ∧ w = wz)
  case first =>
    go_wp2_with fail
    go_loopg [11, 12] len (fun g x j w3 => ∃ (k : Nat) (z : Int), x = .int .i64 z ∧ j = .int .i64 k ∧ w = w3 ∧ k ≤ len ∧ g = len - k)
    case atStart => exact ⟨0, _, rfl, rfl, rfl, Nat.zero_le _, rfl⟩
    case round =>
      obtain ⟨k, z, rfl, rfl, rfl, hk, hg⟩ := hrel
      have HG := hid hg
      clear hg
      by_cases hlt : k < len
      · obtain ⟨b, o, rfl, hc, hs⟩ := H.out k hlt
        generalize K k = sk at hc hs
        by_cases h2 : 1048576 < sk.size
        · go_wp2_with fail
          go_ret
          exact ⟨ret_any_bool _, rfl⟩
        · go_wp2_with fail
          · go_ret
            exact ⟨ret_any_bool _, rfl⟩
          · go_roundg (len - (k + 1))
            case measure => rw [HG.out]; omega
            case rel => exact ⟨k + 1, _, rfl, by go_num, rfl, by omega, rfl⟩
      · go_wp2_with fail
        go_meet
        case rel => exact ⟨⟨_, rfl⟩, rfl⟩
  case rest =>
    obtain ⟨⟨z, rfl⟩, rfl⟩ := hcut
    go_wp2_with fail
    all_goals (go_ret; exact ⟨ret_any_bool _, rfl⟩)
set_option maxRecDepth 100000 in
set_option maxHeartbeats 1000000 in
theorem zzBytes10_any (a : Option Addr) (len cap : Nat) (K : Nat → ByteArray) (a' : Option Addr) (len' cap' : Nat) (w : World) (hl : len ≤ maxLen) (h : Strs w a len K) :
    Calls Try.prog 10 #[.slice a len cap, .slice a' len' cap'] w fun e w' => (∃ r : Bool, e = .returned (.bool r)) ∧ w' = w := by
  have H := hid h
  clear h
  unfold maxLen at hl
  by_cases h1 : 1048576 < len
  · go_enter Try.func10, Try.ntmps10
    go_wp2_with fail
    go_ret
    exact ⟨ret_any_bool _, rfl⟩
  go_enter Try.func10, Try.ntmps10
  go_upto_block 0 with fail
  go_cut [5, 6] (fun x _ wz => (∃ z : Int, x = .int .i64 z) ∧ w = wz)
  case first =>
    go_wp2_with fail
    go_loopg [5, 6] len (fun g x j w3 => ∃ (k : Nat) (z : Int), x = .int .i64 z ∧ j = .int .i64 k ∧ w = w3 ∧ k ≤ len ∧ g = len - k)
    case atStart => exact ⟨0, _, rfl, rfl, rfl, Nat.zero_le _, rfl⟩
    case round =>
      obtain ⟨k, z, rfl, rfl, rfl, hk, hg⟩ := hrel
      have HG := hid hg
      clear hg
      by_cases hlt : k < len
      · obtain ⟨b, o, rfl, hc, hs⟩ := H.out k hlt
        generalize K k = sk at hc hs
        by_cases h2 : 1048576 < sk.size
        · go_wp2_with fail
          go_ret
          exact ⟨ret_any_bool _, rfl⟩
        · go_wp2_with fail
          · go_ret
            exact ⟨ret_any_bool _, rfl⟩
          · go_roundg (len - (k + 1))
            case measure => rw [HG.out]; omega
            case rel => exact ⟨k + 1, _, rfl, by go_num, rfl, by omega, rfl⟩
      · go_wp2_with fail
        go_meet
        case rel => exact ⟨⟨_, rfl⟩, rfl⟩
  case rest =>
    obtain ⟨⟨z, rfl⟩, rfl⟩ := hcut
    go_wp2_with fail
    all_goals (go_ret; exact ⟨ret_any_bool _, rfl⟩)
end Go.Proofs.Qxb6617992a.Keep
