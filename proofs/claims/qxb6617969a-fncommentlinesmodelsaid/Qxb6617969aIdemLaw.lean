import Derived.Test.Qxb6617969aComment
namespace Go.Proofs.Qxb6617969a.Base
open Go.RowKit

/-- The line at p holds content behind its blanks. -/
def hasC (l : List Int) (p : Nat) : Bool := decide (wEnd l p < l.length) && !(byt l (wEnd l p) == 35) && !isB (byt l (wEnd l p))

theorem cl_again (l : List Int) : ∀ (f p : Nat) (ls : Int), l.length < p + f → cl l (l.length + 1) (cl l f p ls).1 (cl l f p ls).2 = cl l f p ls
  | 0, p, ls, h => by
    rw [cl_ge l 0 p ls (by omega)]
    exact cl_ge l _ p ls (by omega)
  | f + 1, p, ls, h => by
    by_cases h1 : l.length ≤ p
    · rw [cl_ge l (f + 1) p ls h1]; exact cl_ge l _ p ls h1
    · cases h2 : endsB l (lEnd l p)
      · rw [cl_stop l (f + 1) p ls h2]; exact cl_stop l _ p ls h2
      · by_cases h3 : l.length ≤ lEnd l p
        · rw [cl_end l (f + 1) p ls (by omega) h h3]; exact cl_ge l _ _ ls h3
        · rw [cl_step l (f + 1) p ls (by omega) h h2 (by omega)]
          simp only [Nat.add_sub_cancel]
          have hg := nxt_gt l (lEnd l p) h2 (by omega)
          have hl := lEnd_ge l p
          exact cl_again l f _ _ (by omega)

theorem nxt_brk (l : List Int) (r : Nat) (h1 : endsB l r = true) (h2 : r < l.length) : isB (byt l (nxt l r - 1)) = true := by
  have h3 : isB (byt l r) = true := by simpa [endsB, Nat.not_le.2 h2] using h1
  unfold nxt brk
  by_cases h10 : byt l r = 10
  · simp [h10, isB]
  · have h13 : byt l r = 13 := by simp [isB, h10] at h3; exact h3
    by_cases hn : byt l (r + 1) = 10
    · simp [h13, hn, isB]
    · simp [h13, hn, isB]

theorem cl_moved (l : List Int) : ∀ (f p : Nat), l.length < p + f → 1 ≤ p → p ≤ l.length → isB (byt l (p - 1)) = true →
    p ≤ (cl l f p p).1 ∧ (cl l f p p).1 ≤ l.length ∧ ((cl l f p p).1 = l.length ∨ (isB (byt l ((cl l f p p).1 - 1)) = true ∧ (cl l f p p).2 = (cl l f p p).1))
  | 0, p, h, hp, hpl, hb => by omega
  | f + 1, p, h, hp, hpl, hb => by
    by_cases h1 : l.length ≤ p
    · rw [cl_ge l (f + 1) p p h1]; exact ⟨Nat.le_refl _, hpl, .inr ⟨hb, rfl⟩⟩
    · cases h2 : endsB l (lEnd l p)
      · rw [cl_stop l (f + 1) p p h2]; exact ⟨Nat.le_refl _, hpl, .inr ⟨hb, rfl⟩⟩
      · have hl := lEnd_ge l p
        have hle := lEnd_le l p hpl
        by_cases h3 : l.length ≤ lEnd l p
        · rw [cl_end l (f + 1) p p (by omega) h h3]
          exact ⟨hl, hle, .inl (Nat.le_antisymm hle h3)⟩
        · rw [cl_step l (f + 1) p p (by omega) h h2 (by omega)]
          simp only [Nat.add_sub_cancel]
          have hg := nxt_gt l (lEnd l p) h2 (by omega)
          have ih := cl_moved l f (nxt l (lEnd l p)) (by omega) (by omega) (nxt_le l _ (by omega)) (nxt_brk l _ h2 (by omega))
          exact ⟨by omega, ih.2⟩

theorem idem_stay (l : List Int) (p : Nat) (ls : Int) (h : l.length ≤ p ∨ hasC l p = true) : cl l (l.length + 1) p ls = (p, ls) := by
  rcases h with h | h
  · exact cl_ge l _ p ls h
  · simp [hasC] at h
    apply cl_stop
    have e : lEnd l p = wEnd l p := by simp [lEnd, h.1.2]
    rw [e]
    simp [endsB, h.2]
    exact h.1.1

theorem idem_move (l : List Int) (p : Nat) (ls : Int) (hp : p < l.length) (h : hasC l p = false) :
    p < (cl l (l.length + 1) p ls).1 ∧ (cl l (l.length + 1) p ls).1 ≤ l.length ∧
    ((cl l (l.length + 1) p ls).1 = l.length ∨ (isB (byt l ((cl l (l.length + 1) p ls).1 - 1)) = true ∧ (cl l (l.length + 1) p ls).2 = (cl l (l.length + 1) p ls).1)) := by
  have h2 : endsB l (lEnd l p) = true := by
    unfold lEnd
    by_cases h35 : byt l (wEnd l p) = 35
    · rw [if_pos h35]; exact eEnd_stop l _
    · rw [if_neg h35]
      by_cases hw : l.length ≤ wEnd l p
      · exact endsB_ge l _ hw
      · simp [hasC, h35, Nat.lt_of_not_le hw] at h
        simp [endsB, h]
  have hl := lEnd_ge l p
  have hle := lEnd_le l p (by omega)
  by_cases h3 : l.length ≤ lEnd l p
  · rw [cl_end l _ p ls hp (by omega) h3]
    exact ⟨by show p < lEnd l p; omega, hle, .inl (Nat.le_antisymm hle h3)⟩
  · rw [cl_step l _ p ls hp (by omega) h2 (by omega)]
    simp only [Nat.add_sub_cancel]
    have hg := nxt_gt l (lEnd l p) h2 (by omega)
    have ih := cl_moved l l.length (nxt l (lEnd l p)) (by omega) (by omega) (nxt_le l _ (by omega)) (nxt_brk l _ h2 (by omega))
    exact ⟨by omega, ih.2⟩

/-- A bound for every number that commentLines leaves. -/
theorem cl_bound (l : List Int) : ∀ (f p : Nat) (ls : Int), (cl l f p ls).1 = p ∨ (cl l f p ls).1 ≤ l.length
  | 0, p, ls => .inl rfl
  | f + 1, p, ls => by
    by_cases h1 : l.length ≤ p
    · rw [cl_ge l (f + 1) p ls h1]; exact .inl rfl
    · unfold cl
      rw [if_neg h1]
      split
      · exact .inl rfl
      · split
        · exact .inr (lEnd_le l p (by omega))
        · have hn := nxt_le l (lEnd l p) (by omega)
          rcases cl_bound l f (nxt l (lEnd l p)) (nxt l (lEnd l p) : Nat) with h | h
          · right; rw [h]; exact hn
          · exact .inr h
end Go.Proofs.Qxb6617969a.Base
