import Derived.Test.Qxb6617969aShims
namespace Go.Proofs.Qxb6617969a.Base
open Go.RowKit

/-- What 'zzBlankOrComment' answers of a line. -/
def bocB (m : List Int) : Bool := decide (m.length ≤ wEnd m 0) || (byt m (wEnd m 0) == 35)

/-- A line: its start, its end, where the next one starts (-1: nowhere). -/
structure Ln where
  st : Nat
  en : Nat
  nx : Int

def lns (l : List Int) : Nat → Nat → List Ln
  | 0, _ => []
  | f + 1, s => if l.length ≤ s then [] else if l.length ≤ eEnd l s then [⟨s, eEnd l s, -1⟩] else ⟨s, eEnd l s, nxt l (eEnd l s)⟩ :: lns l f (nxt l (eEnd l s))

def blank (l : List Int) (t : Ln) : Bool := bocB ((l.take t.en).drop t.st)

/-- The number of the first line that is not blank. -/
def fi (l : List Int) : List Ln → Nat
  | [] => 0
  | t :: T => if blank l t then fi l T + 1 else 0

/-- The line's start behind the first k lines. -/
def lsAt : List Ln → Nat → Int → Int
  | _, 0, ls => ls
  | [], _ + 1, ls => ls
  | t :: T, k + 1, ls => lsAt T k (if 0 ≤ t.nx then t.nx else ls)

theorem lns_ge (l : List Int) (f s : Nat) (h : l.length ≤ s) : lns l f s = [] := by
  cases f with
  | zero => rfl
  | succ f => simp [lns, h]
theorem lns_last (l : List Int) (f s : Nat) (hf : l.length < s + f) (h : s < l.length) (h1 : l.length ≤ eEnd l s) : lns l f s = [⟨s, eEnd l s, -1⟩] := by
  cases f with
  | zero => omega
  | succ f => simp [lns, Nat.not_le.2 h, h1]
theorem lns_step (l : List Int) (f s : Nat) (hf : l.length < s + f) (h : s < l.length) (h1 : eEnd l s < l.length) : lns l f s = ⟨s, eEnd l s, nxt l (eEnd l s)⟩ :: lns l (f - 1) (nxt l (eEnd l s)) := by
  cases f with
  | zero => omega
  | succ f => simp [lns, Nat.not_le.2 h, Nat.not_le.2 h1]

theorem eEnd_not (l : List Int) (s : Nat) : isW (byt l (eEnd l s)) = false ∧ ¬ byt l (eEnd l s) = 35 := by
  have h := eEnd_stop l s
  simp [endsB] at h
  rcases h with h | h
  · rw [byt_ge l _ h]; simp [isW]
  · simp [isB] at h
    rcases h with h | h <;> rw [h] <;> simp [isW]

/-- A line is blank just where 'commentLines' passes it; then the blanks and the comment end where it ends. -/
theorem blank_iff (l : List Int) (s : Nat) (hs : s < l.length) (x : Int) :
    blank l ⟨s, eEnd l s, x⟩ = endsB l (lEnd l s) ∧ (endsB l (lEnd l s) = true → lEnd l s = eEnd l s) := by
  have hge := eEnd_ge l s
  have hle := eEnd_le l s (by omega)
  have hn := eEnd_not l s
  have hw1 := wEnd_ge l s
  have hwe : wEnd l s ≤ eEnd l s := by
    by_cases hh : wEnd l s ≤ eEnd l s
    · exact hh
    · have := wEnd_mid l s (eEnd l s) hge (by omega)
      rw [hn.1] at this; cases this
  have hb : ∀ i, i < eEnd l s - s → byt ((l.take (eEnd l s)).drop s) i = byt l (s + i) := by
    intro i hi
    rw [byt_drop, byt_take l _ _ (by omega)]
  have hlen : ((l.take (eEnd l s)).drop s).length = eEnd l s - s := by simp; omega
  have hwm : wEnd ((l.take (eEnd l s)).drop s) 0 = wEnd l s - s := by
    symm
    apply wEnd_of
    · omega
    · intro i _ hi
      rw [hb i (by omega)]
      exact wEnd_mid l s _ (by omega) (by omega)
    · by_cases hh : wEnd l s < eEnd l s
      · rw [hb _ (by omega), show s + (wEnd l s - s) = wEnd l s from by omega]; exact wEnd_stop l s
      · rw [byt_ge _ _ (by omega)]; rfl
  unfold blank bocB
  simp only
  rw [hwm, hlen]
  by_cases hh : wEnd l s < eEnd l s
  · have hm := eEnd_mid l s (wEnd l s) hw1 hh
    rw [hb _ (by omega), show s + (wEnd l s - s) = wEnd l s from by omega]
    by_cases h35 : byt l (wEnd l s) = 35
    · have he : eEnd l s = eEnd l (wEnd l s) := eEnd_of l _ _ hwe (fun i a b => eEnd_mid l s i (by omega) b) (eEnd_stop l s)
      have hl : lEnd l s = eEnd l s := by unfold lEnd; rw [if_pos h35, ← he]
      rw [hl, eEnd_stop l s]
      exact ⟨by simp [h35], fun _ => rfl⟩
    · have hl : lEnd l s = wEnd l s := by unfold lEnd; rw [if_neg h35]
      rw [hl, hm]
      exact ⟨by simp [h35]; omega, fun h => by cases h⟩
  · have he : wEnd l s = eEnd l s := by omega
    have hl : lEnd l s = eEnd l s := by unfold lEnd; rw [he, if_neg hn.2]
    rw [hl, eEnd_stop l s]
    exact ⟨by simp; left; omega, fun _ => rfl⟩

/-- The place that the law wants. -/
def wpos (l : List Int) (L : List Ln) (s : Nat) : Nat := ((L[fi l L]?).map Ln.st).getD (if 0 < L.length then l.length else s)

/-- The law: where 'commentLines' stops, said of the lines. -/
theorem model_law (l : List Int) : ∀ (f s : Nat) (ls : Int), l.length < s + f →
    cl l f s ls = (wpos l (lns l f s) s, lsAt (lns l f s) (fi l (lns l f s)) ls)
  | f, s, ls, hf => by
    by_cases h1 : l.length ≤ s
    · rw [cl_ge l f s ls h1, lns_ge l f s h1]; rfl
    · have hs : s < l.length := by omega
      have hge := eEnd_ge l s
      have hle := eEnd_le l s (by omega)
      cases hb : endsB l (lEnd l s)
      · rw [cl_stop l f s ls hb]
        by_cases h2 : l.length ≤ eEnd l s
        · rw [lns_last l f s hf hs h2]
          have hbl := (blank_iff l s hs (-1)).1
          rw [hb] at hbl
          simp [wpos, fi, hbl, lsAt]
        · rw [lns_step l f s hf hs (by omega)]
          have hbl := (blank_iff l s hs (nxt l (eEnd l s))).1
          rw [hb] at hbl
          simp [wpos, fi, hbl, lsAt]
      · have hle' := (blank_iff l s hs 0).2 hb
        by_cases h2 : l.length ≤ eEnd l s
        · rw [cl_end l f s ls hs hf (by omega), lns_last l f s hf hs h2]
          have hbl := (blank_iff l s hs (-1)).1
          rw [hb] at hbl
          have hfi : fi l [⟨s, eEnd l s, -1⟩] = 1 := by simp [fi, hbl]
          have hw : wpos l [⟨s, eEnd l s, -1⟩] s = l.length := by simp [wpos, hfi]
          rw [hfi, hw, hle']
          have : eEnd l s = l.length := by omega
          simp [lsAt, this]
        · rw [cl_step l f s ls hs hf hb (by omega), lns_step l f s hf hs (by omega), hle']
          have hbl := (blank_iff l s hs (nxt l (eEnd l s))).1
          rw [hb] at hbl
          have hgt := nxt_gt l (eEnd l s) (eEnd_stop l s) (by omega)
          have hnl := nxt_le l (eEnd l s) (by omega)
          match f, hf with
          | 0, hf => omega
          | f + 1, hf =>
            have ih := model_law l f (nxt l (eEnd l s)) (nxt l (eEnd l s) : Nat) (by omega)
            have e1 : f + 1 - 1 = f := rfl
            rw [e1, ih]
            have hnil : lns l f (nxt l (eEnd l s)) = [] → nxt l (eEnd l s) = l.length := by
              intro hnil
              by_cases h4 : l.length ≤ nxt l (eEnd l s)
              · omega
              · by_cases h5 : l.length ≤ eEnd l (nxt l (eEnd l s))
                · rw [lns_last l f _ (by omega) (by omega) h5] at hnil; cases hnil
                · rw [lns_step l f _ (by omega) (by omega) (by omega)] at hnil; cases hnil
            generalize lns l f (nxt l (eEnd l s)) = T at hnil
            generalize nxt l (eEnd l s) = m at *
            have hfi : fi l (⟨s, eEnd l s, m⟩ :: T) = fi l T + 1 := by simp [fi, hbl]
            have hz : 0 ≤ (m : Int) := by omega
            have hw : wpos l (⟨s, eEnd l s, m⟩ :: T) s = wpos l T m := by
              unfold wpos
              rw [hfi, List.getElem?_cons_succ]
              congr 1
              by_cases hT : 0 < T.length
              · simp [hT]
              · have := hnil (List.eq_nil_of_length_eq_zero (by omega))
                simp [hT, this]
            rw [hfi, hw]
            simp [lsAt]

theorem fi_le (l : List Int) : ∀ L : List Ln, fi l L ≤ L.length
  | [] => by simp [fi]
  | t :: T => by
    have := fi_le l T
    unfold fi
    split
    · simp; exact this
    · simp
theorem fi_of (l : List Int) : ∀ (L : List Ln) (k : Nat), k ≤ L.length → (∀ i (h : i < L.length), i < k → blank l (L[i]'h) = true) → (∀ h : k < L.length, blank l (L[k]'h) = false) → k = fi l L
  | [], k, h1, _, _ => by simp at h1; simp [fi, h1]
  | t :: T, 0, _, _, h3 => by
    have := h3 (by simp)
    simp at this
    simp [fi, this]
  | t :: T, k + 1, h1, h2, h3 => by
    have h0 := h2 0 (by simp) (by omega)
    simp at h0
    have := fi_of l T k (by simpa using h1) (fun i h hi => by have := h2 (i + 1) (by simpa using h) (by omega); simpa using this) (fun h => by have := h3 (by simpa using h); simpa using this)
    simp [fi, h0, ← this]
theorem lsAt_succ : ∀ (L : List Ln) (k : Nat) (ls : Int) (h : k < L.length), lsAt L (k + 1) ls = if 0 ≤ (L[k]'h).nx then (L[k]'h).nx else lsAt L k ls
  | [], k, ls, h => by simp at h
  | t :: T, 0, ls, h => by cases T <;> simp [lsAt]
  | t :: T, k + 1, ls, h => by
    have := lsAt_succ T k (if 0 ≤ t.nx then t.nx else ls) (by simpa using h)
    simp only [lsAt, List.getElem_cons_succ]
    exact this

/-- Bounds on the lines. -/
theorem lns_mem (l : List Int) : ∀ (f s : Nat) (t : Ln), t ∈ lns l f s → t.st < l.length ∧ t.st ≤ t.en ∧ t.en ≤ l.length ∧ -1 ≤ t.nx ∧ t.nx ≤ l.length
  | 0, s, t, h => by simp [lns] at h
  | f + 1, s, t, h => by
    unfold lns at h
    split at h
    · simp at h
    · have hge := eEnd_ge l s
      have hle := eEnd_le l s (by omega)
      split at h
      · simp at h; subst h; exact ⟨by simp <;> omega, hge, hle, by simp, by simp <;> omega⟩
      · rcases List.mem_cons.1 h with h | h
        · subst h
          have := nxt_le l (eEnd l s) (by omega)
          exact ⟨by simp <;> omega, hge, hle, by simp <;> omega, by simp <;> omega⟩
        · exact lns_mem l f _ t h
end Go.Proofs.Qxb6617969a.Base
