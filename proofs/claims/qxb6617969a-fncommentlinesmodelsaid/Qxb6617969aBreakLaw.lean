import Derived.Test.Qxb6617969aMark
namespace Go.Proofs.Qxb6617969a.Base
open Go.RowKit

theorem byt_take (l : List Int) (i k : Nat) (h : k < i) : byt (l.take i) k = byt l k := by
  simp [byt, h]
theorem byt_take_ge (l : List Int) (i k : Nat) (h : i ≤ k) : byt (l.take i) k = 0 := by
  apply byt_ge; simp; omega
theorem byt_drop (l : List Int) (i k : Nat) : byt (l.drop i) k = byt l (i + k) := by
  simp [byt, List.getElem?_drop]
theorem brk_drop (l : List Int) (i k : Nat) (h : i ≤ k) : brk (l.drop i) (k - i) = brk l k := by
  simp only [brk, byt_drop]
  rw [show i + (k - i) = k from by omega, show i + (k - i + 1) = k + 1 from by omega]

/-- The break that straddles the cut. -/
def strad (l : List Int) (i k : Nat) : Prop := k + 1 = i ∧ byt l k = 13 ∧ i < l.length ∧ byt l i = 10

theorem brk_straddle (l : List Int) (i k : Nat) (h : strad l i k) : brk (l.take i) k = 1 ∧ brk l k = 2 := by
  obtain ⟨rfl, h1, h2, h3⟩ := h
  constructor
  · simp [brk, byt_take l (k + 1) k (by omega), byt_take_ge l (k + 1) (k + 1) (by omega), h1]
  · simp [brk, h1, h3]

theorem brk_take (l : List Int) (i k : Nat) (hk : k < i) (h : ¬ strad l i k) : brk (l.take i) k = brk l k := by
  unfold brk
  rw [byt_take l i k hk]
  by_cases h1 : k + 1 < i
  · rw [byt_take l i (k + 1) h1]
  · obtain rfl : i = k + 1 := by omega
    rw [byt_take_ge l (k + 1) (k + 1) (by omega)]
    by_cases h13 : byt l k = 13
    · have : ¬ byt l (k + 1) = 10 := by
        intro h10
        apply h
        refine ⟨rfl, h13, ?_, h10⟩
        by_cases hh : k + 1 < l.length
        · exact hh
        · have := byt_ge l (k + 1) (by omega); omega
      simp [h13, this]
    · simp [h13]

def CRLF : ByteArray := { data := #[13, 10] }
def CR : ByteArray := { data := #[13] }
def LF : ByteArray := { data := #[10] }

theorem hm_one (l : List Int) (k : Nat) (c : UInt8) (hc : (c.toNat : Int) ≠ 0) : hmB l k { data := #[c] } = decide (byt l k = c.toNat) := by
  simp only [hmB]
  apply decide_eq_decide.2
  have hs : (ByteArray.mk #[c]).size = 1 := rfl
  have hm : mkb { data := #[c] } 0 = c.toNat := by simp [mkb, hs]; rfl
  rw [hs]
  constructor
  · intro ⟨_, h⟩; have := h 0 (by omega); rw [hm] at this; simpa using this
  · intro h
    refine ⟨?_, ?_⟩
    · by_cases hh : k + 1 ≤ l.length
      · exact hh
      · have := byt_ge l k (by omega); omega
    · intro j hj
      obtain rfl : j = 0 := by omega
      rw [hm]; exact h

theorem hm_crlf (l : List Int) (k : Nat) : hmB l k CRLF = decide (byt l k = 13 ∧ byt l (k + 1) = 10) := by
  simp only [hmB]
  apply decide_eq_decide.2
  have hs : CRLF.size = 2 := rfl
  have hm0 : mkb CRLF 0 = 13 := by simp [mkb, hs]; rfl
  have hm1 : mkb CRLF 1 = 10 := by simp [mkb, hs]; rfl
  rw [hs]
  constructor
  · intro ⟨_, h⟩
    have h0 := h 0 (by omega); have h1 := h 1 (by omega)
    rw [hm0] at h0; rw [hm1] at h1
    exact ⟨h0, h1⟩
  · intro ⟨h0, h1⟩
    refine ⟨?_, ?_⟩
    · by_cases hh : k + 2 ≤ l.length
      · exact hh
      · have := byt_ge l (k + 1) (by omega); omega
    · intro j hj
      by_cases hj0 : j = 0
      · subst hj0; rw [hm0]; exact h0
      · obtain rfl : j = 1 := by omega
        rw [hm1]; exact h1

/-- What the law wants of the marks is what 'breakAt' answers. -/
theorem brk_two (l : List Int) (k : Nat) (h : hmB l k CRLF = true) : brk l k = 2 := by
  rw [hm_crlf] at h
  simp at h
  simp [brk, h.1, h.2]
theorem brk_one (l : List Int) (k : Nat) (h1 : hmB l k CRLF = false) (h : hmB l k CR = true ∨ hmB l k LF = true) : brk l k = 1 := by
  rw [hm_crlf] at h1
  unfold CR LF at h
  rw [hm_one _ _ _ (by decide), hm_one _ _ _ (by decide)] at h
  simp at h h1
  rcases h with h | h
  · simp [brk, h, h1 h]
  · simp [brk, h]
theorem brk_zero (l : List Int) (k : Nat) (h1 : hmB l k CR = false) (h2 : hmB l k LF = false) : brk l k = 0 := by
  unfold CR at h1
  unfold LF at h2
  rw [hm_one _ _ _ (by decide)] at h1 h2
  simp at h1 h2
  simp [brk, h1, h2]
theorem brk_range (l : List Int) (k : Nat) : 0 ≤ brk l k ∧ brk l k ≤ 2 := by
  unfold brk
  split
  · omega
  · split
    · split <;> omega
    · omega

theorem Txt.alloc {w : World} {v : Value} {l : List Int} (h : Txt w v l) (o : Obj) : Txt (w.alloc o) v l := by
  rcases h with h | ⟨b, q, cap, rfl, hc⟩
  · exact .inl h
  · exact .inr ⟨b, q, cap, rfl, fun i hi => (World.cell?_of_block (Below.heap_alloc w o b (World.block_lt_of_cell? w _ (hc i hi)))).trans (hc i hi)⟩
theorem Txt.drewN {w : World} {v : Value} {l : List Int} (h : Txt w v l) (n : Nat) : Txt (w.drewN n) v l := by
  rcases h with h | ⟨b, q, cap, rfl, hc⟩
  · exact .inl h
  · exact .inr ⟨b, q, cap, rfl, fun i hi => hc i hi⟩
end Go.Proofs.Qxb6617969a.Base
