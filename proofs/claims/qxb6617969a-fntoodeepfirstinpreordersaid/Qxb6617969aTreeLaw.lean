/-
  Plain laws on trees: no Go in sight.
-/
namespace Go.Proofs.Qxb6617969a.Deep

/-- A tree of depth at most n: is it nil, its kind, its children. -/
def Tree : Nat → Type
  | 0 => Unit
  | n + 1 => Bool × Int × List (Tree n)

def coll (k : Int) : Bool := (k == 1) || (k == 2)
def one (b : Bool) : Int := if b then 1 else 0

/-- The elements below a tree's root. -/
def cnt : (n : Nat) → Tree n → Nat
  | 0, _ => 0
  | n + 1, (_, _, kids) => kids.length + (kids.map (cnt n)).sum

/-- What 'zzTreeLeft' answers. -/
def tl : (n : Nat) → Tree n → Int → Int
  | 0, _, x => x
  | n + 1, (_, _, kids), x => kids.foldl (fun acc c => if 0 ≤ acc then tl n c acc else acc) (x - 32 * kids.length)

theorem cnt_succ (n : Nat) (nl : Bool) (k : Int) (kids : List (Tree n)) : cnt (n + 1) (nl, k, kids) = kids.length + (kids.map (cnt n)).sum := rfl
theorem tl_succ (n : Nat) (nl : Bool) (k : Int) (kids : List (Tree n)) (x : Int) : tl (n + 1) (nl, k, kids) x = kids.foldl (fun acc c => if 0 ≤ acc then tl n c acc else acc) (x - 32 * kids.length) := rfl
theorem tl_foldl (n : Nat) (f : Tree n → Int → Int) (g : Tree n → Nat) (h : ∀ c x, 0 ≤ f c x → f c x = x - 32 * g c) :
    ∀ (kids : List (Tree n)) (x : Int), 0 ≤ kids.foldl (fun acc c => if 0 ≤ acc then f c acc else acc) x → kids.foldl (fun acc c => if 0 ≤ acc then f c acc else acc) x = x - 32 * (kids.map g).sum
  | [], x, _ => by simp
  | c :: kids, x, h0 => by
    simp only [List.foldl_cons] at h0 ⊢
    have ih := tl_foldl n f g h kids _ h0
    rw [ih] at h0 ⊢
    by_cases hx : 0 ≤ x
    · rw [if_pos hx] at h0 ⊢
      have hc : 0 ≤ f c x := by omega
      rw [h c x hc]
      simp only [List.map_cons, List.sum_cons]
      omega
    · rw [if_neg hx] at h0
      omega
theorem tl_cnt : ∀ (n : Nat) (t : Tree n) (x : Int), 0 ≤ tl n t x → tl n t x = x - 32 * cnt n t
  | 0, t, x, _ => by simp [tl, cnt]
  | n + 1, (nl, k, kids), x, h => by
    have := tl_foldl n (tl n) (cnt n) (fun c y => tl_cnt n c y) kids _ h
    rw [tl_succ, cnt_succ, this]
    omega

/-- One round of 'zzTreeLeft'. -/
def tlF (n : Nat) (acc : Int) (c : Tree n) : Int := if 0 ≤ acc then tl n c acc else acc
theorem tl_fold (n : Nat) (nl : Bool) (k : Int) (kids : List (Tree n)) (x : Int) : tl (n + 1) (nl, k, kids) x = kids.foldl (tlF n) (x - 32 * kids.length) := rfl
theorem tlF_le {n : Nat} (f : Int → Tree n → Int) (h : ∀ c x, f x c ≤ x) : ∀ (kids : List (Tree n)) (x : Int), kids.foldl f x ≤ x
  | [], x => Int.le_refl _
  | c :: kids, x => by
    simp only [List.foldl_cons]
    have h1 := tlF_le f h kids (f x c)
    have h2 := h c x
    omega
theorem tl_le : ∀ (n : Nat) (t : Tree n) (x : Int), tl n t x ≤ x
  | 0, _, x => Int.le_refl _
  | n + 1, (nl, k, kids), x => by
    rw [tl_fold]
    have := tlF_le (tlF n) (fun c y => by
      unfold tlF
      split
      · exact tl_le n c y
      · exact Int.le_refl _) kids (x - 32 * kids.length)
    omega
theorem tlF_neg (n : Nat) : ∀ (kids : List (Tree n)) (x : Int), x < 0 → kids.foldl (tlF n) x = x
  | [], x, _ => rfl
  | c :: kids, x, h => by
    simp only [List.foldl_cons]
    have : tlF n x c = x := by unfold tlF; rw [if_neg (by omega)]
    rw [this]
    exact tlF_neg n kids x h
theorem tlF_take (n : Nat) (kids : List (Tree n)) (j : Nat) (h : j < kids.length) (x : Int) : (kids.take (j + 1)).foldl (tlF n) x = tlF n ((kids.take j).foldl (tlF n) x) (kids[j]'h) := by
  rw [List.take_succ_eq_append_getElem h, List.foldl_append]; rfl
theorem tlF_cut (n : Nat) (kids : List (Tree n)) (j : Nat) (x : Int) (h : (kids.take j).foldl (tlF n) x < 0) : kids.foldl (tlF n) x = (kids.take j).foldl (tlF n) x := by
  have e : kids.foldl (tlF n) x = (kids.drop j).foldl (tlF n) ((kids.take j).foldl (tlF n) x) := by rw [← List.foldl_append, List.take_append_drop]
  rw [e, tlF_neg n _ _ h]

/-- One list behind the other, each told where it starts. -/
def seqK {T X : Type} (f : T → Nat → List X) : List T → Nat → List X
  | [], _ => []
  | c :: cs, nx => f c nx ++ seqK f cs (nx + (f c nx).length)

theorem seqK_snoc {T X : Type} (f : T → Nat → List X) : ∀ (cs : List T) (c : T) (nx : Nat), seqK f (cs ++ [c]) nx = seqK f cs nx ++ f c (nx + (seqK f cs nx).length)
  | [], c, nx => by simp [seqK]
  | a :: cs, c, nx => by
    simp only [List.cons_append, seqK]
    rw [seqK_snoc f cs c, List.append_assoc, List.length_append, Nat.add_assoc]

/-- The nodes in preorder: of each its parent's number and whether it is a collection. -/
def ps : (n : Nat) → Tree n → Int → Nat → List (Int × Bool)
  | 0, _, _, _ => []
  | n + 1, (nl, k, kids), p, me => if nl then [] else (p, coll k) :: seqK (fun c nx => ps n c (me : Int) nx) kids (me + 1)

theorem ps_succ (n : Nat) (nl : Bool) (k : Int) (kids : List (Tree n)) (p : Int) (me : Nat) : ps (n + 1) (nl, k, kids) p me = if nl then [] else (p, coll k) :: seqK (fun c nx => ps n c (me : Int) nx) kids (me + 1) := rfl
theorem seqK_len {T X : Type} (f g : T → Nat → List X) (h : ∀ c a b, (f c a).length = (g c b).length) : ∀ (cs : List T) (a b : Nat), (seqK f cs a).length = (seqK g cs b).length
  | [], _, _ => rfl
  | c :: cs, a, b => by
    simp only [seqK, List.length_append]
    rw [seqK_len f g h cs _ (b + (g c b).length), h c a b]
theorem ps_len : ∀ (n : Nat) (t : Tree n) (p q : Int) (a b : Nat), (ps n t p a).length = (ps n t q b).length
  | 0, _, _, _, _, _ => rfl
  | n + 1, (nl, k, kids), p, q, a, b => by
    rw [ps_succ, ps_succ]
    split
    · rfl
    · simp only [List.length_cons]
      rw [seqK_len _ _ (fun c x y => ps_len n c _ _ x y) kids (a + 1) (b + 1)]

theorem seqK_le {T X : Type} (f : T → Nat → List X) (g : T → Nat) (h : ∀ c nx, (f c nx).length ≤ 1 + g c) : ∀ (cs : List T) (nx : Nat), (seqK f cs nx).length ≤ cs.length + (cs.map g).sum
  | [], _ => by simp [seqK]
  | c :: cs, nx => by
    have ih := seqK_le f g h cs (nx + (f c nx).length)
    have := h c nx
    simp only [seqK, List.length_append, List.length_cons, List.map_cons, List.sum_cons]
    omega
theorem ps_le : ∀ (n : Nat) (t : Tree n) (p : Int) (me : Nat), (ps n t p me).length ≤ 1 + cnt n t
  | 0, _, _, _ => by simp [ps]
  | n + 1, (nl, k, kids), p, me => by
    rw [ps_succ, cnt_succ]
    split
    · simp
    · have := seqK_le (fun c nx => ps n c (me : Int) nx) (cnt n) (fun c nx => ps_le n c _ nx) kids (me + 1)
      simp only [List.length_cons]
      omega

/-- The first answer of all. -/
def firstK {T : Type} (f : T → Nat → Option Nat) (len : T → Nat) : List T → Nat → Option Nat
  | [], _ => none
  | c :: cs, nx => match f c nx with
    | some j => some j
    | none => firstK f len cs (nx + len c)

theorem firstK_cons {T : Type} (f : T → Nat → Option Nat) (len : T → Nat) (c : T) (cs : List T) (nx : Nat) : firstK f len (c :: cs) nx = match f c nx with | some j => some j | none => firstK f len cs (nx + len c) := rfl

/-- What 'tooDeep' answers: the number of the first collection that is too deep. -/
def td (mx : Int) : (n : Nat) → Tree n → Int → Nat → Option Nat
  | 0, _, _, _ => none
  | n + 1, (nl, k, kids), d, me => if nl then none else if coll k && decide (mx < d + 1) then some me
      else firstK (fun c nx => td mx n c (d + one (coll k)) nx) (fun c => (ps n c 0 0).length) kids (me + 1)

theorem td_succ (mx : Int) (n : Nat) (nl : Bool) (k : Int) (kids : List (Tree n)) (d : Int) (me : Nat) : td mx (n + 1) (nl, k, kids) d me = if nl then none else if coll k && decide (mx < d + 1) then some me
      else firstK (fun c nx => td mx n c (d + one (coll k)) nx) (fun c => (ps n c 0 0).length) kids (me + 1) := rfl

/-- The level of a parent. -/
def lvl (acc : List Int) (p : Int) : Int := if 0 ≤ p then acc.getD p.toNat 0 else 0

/-- One round of the law's own loop over the preorder. -/
def step (dep mx : Int) (s : List Int × Option Nat) (x : Int × Bool) : List Int × Option Nat :=
  (s.1 ++ [lvl s.1 x.1 + one x.2], if s.2.isNone && x.2 && decide (mx < dep + (lvl s.1 x.1 + one x.2)) then some s.1.length else s.2)
def scan (dep mx : Int) (X : List (Int × Bool)) (s : List Int × Option Nat) : List Int × Option Nat := X.foldl (step dep mx) s

theorem scan_append (dep mx : Int) (X Y : List (Int × Bool)) (s : List Int × Option Nat) : scan dep mx (X ++ Y) s = scan dep mx Y (scan dep mx X s) := by
  simp [scan, List.foldl_append]

def orE (a b : Option Nat) : Option Nat := match a with | some x => some x | none => b

theorem lvl_append (acc ls : List Int) (p : Int) (h : p < acc.length) : lvl (acc ++ ls) p = lvl acc p := by
  unfold lvl
  split
  · simp only [List.getD_eq_getElem?_getD]
    rw [List.getElem?_append_left (by omega)]
  · rfl

theorem scan_kids (dep mx : Int) {T : Type} (f : T → Nat → List (Int × Bool)) (g : T → Nat → Option Nat) (len : T → Nat) (me : Nat) (Lm : Int)
    (h : ∀ c acc w, me < acc.length → lvl acc (me : Int) = Lm → ∃ ls, ls.length = (f c acc.length).length ∧ scan dep mx (f c acc.length) (acc, w) = (acc ++ ls, orE w (g c acc.length)))
    (hl : ∀ c nx, (f c nx).length = len c) :
    ∀ (cs : List T) (acc : List Int) (w : Option Nat), me < acc.length → lvl acc (me : Int) = Lm →
      ∃ ls, ls.length = (seqK f cs acc.length).length ∧ scan dep mx (seqK f cs acc.length) (acc, w) = (acc ++ ls, orE w (firstK g len cs acc.length))
  | [], acc, w, _, _ => ⟨[], by simp [seqK], by simp [seqK, scan, firstK, orE]; cases w <;> rfl⟩
  | c :: cs, acc, w, h1, h2 => by
    obtain ⟨ls, e1, e2⟩ := h c acc w h1 h2
    have hlen : (acc ++ ls).length = acc.length + (f c acc.length).length := by simp [e1]
    obtain ⟨ls', e3, e4⟩ := scan_kids dep mx f g len me Lm h hl cs (acc ++ ls) (orE w (g c acc.length)) (by omega) (by rw [lvl_append _ _ _ (by omega)]; exact h2)
    rw [hlen] at e3 e4
    refine ⟨ls ++ ls', ?_, ?_⟩
    · simp only [seqK, List.length_append]; omega
    · simp only [seqK]
      rw [scan_append, e2, e4, List.append_assoc]
      congr 1
      rw [firstK_cons, hl c acc.length]
      cases w with
      | some x => rfl
      | none => cases g c acc.length <;> rfl

/-- The law: the loop over the preorder finds what 'tooDeep' answers. -/
theorem scan_tree (dep mx : Int) : ∀ (n : Nat) (t : Tree n) (p : Int) (acc : List Int) (w : Option Nat), p < acc.length →
    ∃ ls, ls.length = (ps n t p acc.length).length ∧ scan dep mx (ps n t p acc.length) (acc, w) = (acc ++ ls, orE w (td mx n t (dep + lvl acc p) acc.length))
  | 0, t, p, acc, w, _ => ⟨[], by simp [ps], by simp [ps, scan, td, orE]; cases w <;> rfl⟩
  | n + 1, (nl, k, kids), p, acc, w, hp => by
    rw [ps_succ, td_succ]
    cases nl with
    | true => exact ⟨[], by simp, by simp [scan, orE]; cases w <;> rfl⟩
    | false =>
      simp only [Bool.false_eq_true, if_false]
      have hlv : lvl (acc ++ [lvl acc p + one (coll k)]) ((acc.length : Nat) : Int) = lvl acc p + one (coll k) := by
        unfold lvl
        rw [if_pos (by omega), Int.toNat_natCast]
        simp
      obtain ⟨ls, e1, e2⟩ := scan_kids dep mx (fun c nx => ps n c (acc.length : Int) nx) (fun c nx => td mx n c (dep + (lvl acc p + one (coll k))) nx) (fun c => (ps n c 0 0).length) acc.length (lvl acc p + one (coll k))
        (fun c acc' w' h1 h2 => by
          have := scan_tree dep mx n c (acc.length : Int) acc' w' (by omega)
          rw [h2] at this
          exact this) (fun c nx => ps_len n c _ _ _ _) kids (acc ++ [lvl acc p + one (coll k)]) (if w.isNone && coll k && decide (mx < dep + (lvl acc p + one (coll k))) then some acc.length else w) (by simp) hlv
      have hl1 : (acc ++ [lvl acc p + one (coll k)]).length = acc.length + 1 := by simp
      rw [hl1] at e1 e2
      refine ⟨(lvl acc p + one (coll k)) :: ls, by simp [e1], ?_⟩
      have hcons : scan dep mx ((p, coll k) :: seqK (fun c nx => ps n c (acc.length : Int) nx) kids (acc.length + 1)) (acc, w) = scan dep mx (seqK (fun c nx => ps n c (acc.length : Int) nx) kids (acc.length + 1)) (step dep mx (acc, w) (p, coll k)) := rfl
      rw [hcons]
      unfold step
      rw [e2]
      simp only [List.append_assoc, List.singleton_append, Prod.mk.injEq, true_and]
      have hass : dep + (lvl acc p + one (coll k)) = dep + lvl acc p + one (coll k) := by omega
      rw [hass]
      cases hk : coll k with
      | false =>
        simp [orE]
      | true =>
        by_cases hd : mx < dep + lvl acc p + 1
        · cases w with
          | some x => simp [orE]
          | none => simp [orE, one, hd]
        · cases w with
          | some x => simp [orE]
          | none => simp [orE, one, hd]
end Go.Proofs.Qxb6617969a.Deep
