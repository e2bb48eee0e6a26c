import Derived.Test.Qxb6617969aLines
namespace Go.Proofs.Qxb6617969a.Base
open Go.RowKit

/-- The first place from k on at which P says yes (within f steps). -/
def fst (P : Nat → Bool) : Nat → Nat → Nat
  | 0, k => k
  | f + 1, k => if P k then k else fst P f (k + 1)

theorem fst_ge (P : Nat → Bool) : ∀ f k, k ≤ fst P f k
  | 0, k => by simp [fst]
  | f + 1, k => by
    unfold fst
    split
    · exact Nat.le_refl _
    · have := fst_ge P f (k + 1); omega
theorem fst_mid (P : Nat → Bool) : ∀ f k i, k ≤ i → i < fst P f k → P i = false
  | 0, k, i, h1, h2 => by simp [fst] at h2; omega
  | f + 1, k, i, h1, h2 => by
    unfold fst at h2
    split at h2
    · omega
    · rename_i hP
      by_cases hik : i = k
      · subst hik; simpa using hP
      · exact fst_mid P f (k + 1) i (by omega) h2
theorem fst_stop (P : Nat → Bool) (N : Nat) (hN : ∀ k, N ≤ k → P k = true) : ∀ f k, N ≤ k + f → P (fst P f k) = true
  | 0, k, h => by simp [fst]; exact hN k (by omega)
  | f + 1, k, h => by
    unfold fst
    split
    · assumption
    · exact fst_stop P N hN f (k + 1) (by omega)
theorem fst_le (P : Nat → Bool) (N : Nat) (hN : ∀ k, N ≤ k → P k = true) (f k : Nat) (hk : k ≤ N) : fst P f k ≤ N := by
  by_cases h : fst P f k ≤ N
  · exact h
  · have h1 := fst_mid P f k N hk (by omega)
    rw [hN N (Nat.le_refl _)] at h1
    cases h1
theorem fst_unique (P : Nat → Bool) (N : Nat) (hN : ∀ k, N ≤ k → P k = true) (f k q : Nat) (hf : N ≤ k + f) (h1 : k ≤ q) (h2 : ∀ i, k ≤ i → i < q → P i = false) (h3 : P q = true) : q = fst P f k := by
  have a := fst_stop P N hN f k hf
  have b := fst_ge P f k
  rcases Nat.lt_trichotomy q (fst P f k) with h | h | h
  · rw [fst_mid P f k q h1 h] at h3; cases h3
  · exact h
  · rw [h2 _ b h] at a; cases a

def nw (l : List Int) (k : Nat) : Bool := !isW (byt l k)
theorem nw_ge (l : List Int) : ∀ k, l.length ≤ k → nw l k = true := by
  intro k hk; simp [nw, byt_ge l k hk, isW]
theorem endsB_ge (l : List Int) : ∀ k, l.length ≤ k → endsB l k = true := by
  intro k hk; simp [endsB, hk]

def wEnd (l : List Int) (p : Nat) : Nat := fst (nw l) l.length p
def eEnd (l : List Int) (p : Nat) : Nat := fst (endsB l) l.length p
/-- Where the blanks and the comment of the line at p end. -/
def lEnd (l : List Int) (p : Nat) : Nat := if byt l (wEnd l p) = 35 then eEnd l (wEnd l p) else wEnd l p
/-- The line's break. -/
def nxt (l : List Int) (r : Nat) : Nat := r + (brk l r).toNat
/-- What 'commentLines' leaves: the place and the line's start. -/
def cl (l : List Int) : Nat → Nat → Int → Nat × Int
  | 0, p, ls => (p, ls)
  | f + 1, p, ls => if l.length ≤ p then (p, ls) else if endsB l (lEnd l p) = false then (p, ls) else if l.length ≤ lEnd l p then (lEnd l p, ls)
      else cl l f (nxt l (lEnd l p)) (nxt l (lEnd l p) : Nat)

theorem wEnd_ge (l : List Int) (p : Nat) : p ≤ wEnd l p := fst_ge _ _ _
theorem wEnd_le (l : List Int) (p : Nat) (h : p ≤ l.length) : wEnd l p ≤ l.length := fst_le _ _ (nw_ge l) _ _ h
theorem wEnd_mid (l : List Int) (p i : Nat) (h1 : p ≤ i) (h2 : i < wEnd l p) : isW (byt l i) = true := by
  have := fst_mid (nw l) l.length p i h1 h2; simpa [nw] using this
theorem wEnd_stop (l : List Int) (p : Nat) : isW (byt l (wEnd l p)) = false := by
  have := fst_stop (nw l) l.length (nw_ge l) l.length p (by omega); simpa [nw, wEnd] using this
theorem wEnd_of (l : List Int) (p q : Nat) (h1 : p ≤ q) (h2 : ∀ i, p ≤ i → i < q → isW (byt l i) = true) (h3 : isW (byt l q) = false) : q = wEnd l p :=
  fst_unique (nw l) l.length (nw_ge l) l.length p q (by omega) h1 (fun i a b => by simp [nw, h2 i a b]) (by simp [nw, h3])
theorem eEnd_ge (l : List Int) (p : Nat) : p ≤ eEnd l p := fst_ge _ _ _
theorem eEnd_le (l : List Int) (p : Nat) (h : p ≤ l.length) : eEnd l p ≤ l.length := fst_le _ _ (endsB_ge l) _ _ h
theorem eEnd_mid (l : List Int) (p i : Nat) (h1 : p ≤ i) (h2 : i < eEnd l p) : endsB l i = false := fst_mid (endsB l) l.length p i h1 h2
theorem eEnd_stop (l : List Int) (p : Nat) : endsB l (eEnd l p) = true := fst_stop (endsB l) l.length (endsB_ge l) l.length p (by omega)
theorem eEnd_of (l : List Int) (p q : Nat) (h1 : p ≤ q) (h2 : ∀ i, p ≤ i → i < q → endsB l i = false) (h3 : endsB l q = true) : q = eEnd l p :=
  fst_unique (endsB l) l.length (endsB_ge l) l.length p q (by omega) h1 h2 h3
theorem lEnd_ge (l : List Int) (p : Nat) : p ≤ lEnd l p := by
  unfold lEnd
  have h1 := wEnd_ge l p
  have h2 := eEnd_ge l (wEnd l p)
  split <;> omega
theorem lEnd_le (l : List Int) (p : Nat) (h : p ≤ l.length) : lEnd l p ≤ l.length := by
  unfold lEnd
  have h1 := wEnd_le l p h
  have h2 := eEnd_le l (wEnd l p) h1
  split <;> omega
theorem nxt_gt (l : List Int) (r : Nat) (h1 : endsB l r = true) (h2 : r < l.length) : r < nxt l r := by
  have h3 : isB (byt l r) = true := by simpa [endsB, Nat.not_le.2 h2] using h1
  have := brk_pos l r
  rw [h3] at this
  simp at this
  unfold nxt; omega
theorem nxt_le (l : List Int) (r : Nat) (h2 : r < l.length) : nxt l r ≤ l.length := by
  unfold nxt brk
  by_cases h10 : byt l r = 10
  · simp [h10]; omega
  · by_cases h13 : byt l r = 13
    · by_cases hn : byt l (r + 1) = 10
      · simp [h13, hn]
        by_cases hh : r + 1 < l.length
        · omega
        · have := byt_ge l (r + 1) (by omega); omega
      · simp [h13, hn]; omega
    · simp [h10, h13]; omega

theorem cl_ge (l : List Int) (f p : Nat) (ls : Int) (h : l.length ≤ p) : cl l f p ls = (p, ls) := by
  cases f with
  | zero => rfl
  | succ f => simp [cl, h]
theorem cl_stop (l : List Int) (f p : Nat) (ls : Int) (h : endsB l (lEnd l p) = false) : cl l f p ls = (p, ls) := by
  cases f with
  | zero => rfl
  | succ f => simp [cl, h]
theorem cl_end (l : List Int) (f p : Nat) (ls : Int) (hp : p < l.length) (hf : l.length < p + f) (h1 : l.length ≤ lEnd l p) : cl l f p ls = (lEnd l p, ls) := by
  cases f with
  | zero => omega
  | succ f => simp [cl, Nat.not_le.2 hp, endsB_ge l _ h1, h1]
theorem cl_step (l : List Int) (f p : Nat) (ls : Int) (hp : p < l.length) (hf : l.length < p + f) (h : endsB l (lEnd l p) = true) (h1 : lEnd l p < l.length) :
    cl l f p ls = cl l (f - 1) (nxt l (lEnd l p)) (nxt l (lEnd l p) : Nat) := by
  cases f with
  | zero => omega
  | succ f => simp [cl, Nat.not_le.2 hp, h, Nat.not_le.2 h1]
end Go.Proofs.Qxb6617969a.Base
