import Derived.Test.Qxb6617992aKeep
namespace Go.Proofs.Qxb6617992a.Keep
open Go.RowKit Go.Maps

theorem kl_at (M : Tab) (p q : Key) (v : Int) : kl M p v q = if q = p then some (match M p with | none => v | some u => if v < u then v else u) else M q := by
  unfold kl
  by_cases h : q = p
  · subst h
    cases hM : M q with
    | none => simp [upd]
    | some u =>
      simp only
      split
      · simp [upd]
      · simpa using hM
  · cases hM : M p with
    | none => simp [upd, h]
    | some u =>
      simp only
      split
      · simp [upd, h]
      · rfl

/-- The map behind 'keepLeast' of each pair, the last of them first; its size. -/
def ml : List (Key × Int) → Tab
  | [] => fun _ => none
  | p :: L => kl (ml L) p.1 p.2
def msz : List (Key × Int) → Nat
  | [] => 0
  | p :: L => grow (ml L) p.1 (msz L)

/-- What the map holds at a key: nothing, or the least of what was given. -/
theorem ml_none : ∀ (L : List (Key × Int)) (k : Key), ml L k = none → ∀ p ∈ L, p.1 ≠ k
  | [], k, _, p, hp => by simp at hp
  | a :: L, k, h, p, hp => by
    unfold ml at h
    rw [kl_at] at h
    split at h
    · cases h
    · rename_i hne
      rcases List.mem_cons.1 hp with h1 | h1
      · subst h1; exact fun e => hne e.symm
      · exact ml_none L k h p h1
theorem ml_some : ∀ (L : List (Key × Int)) (k : Key) (v : Int), ml L k = some v → (k, v) ∈ L ∧ ∀ p ∈ L, p.1 = k → v ≤ p.2
  | [], k, v, h => by simp [ml] at h
  | a :: L, k, v, h => by
    unfold ml at h
    rw [kl_at] at h
    split at h
    · rename_i hk
      subst hk
      cases hM : ml L a.1 with
      | none =>
        rw [hM] at h
        simp at h
        subst h
        refine ⟨List.mem_cons_self, ?_⟩
        intro p hp hpk
        rcases List.mem_cons.1 hp with h1 | h1
        · subst h1; exact Int.le_refl _
        · exact absurd hpk (ml_none L _ hM p h1)
      | some u =>
        rw [hM] at h
        simp at h
        have ih := ml_some L a.1 u hM
        by_cases hlt : a.2 < u
        · rw [if_pos hlt] at h
          subst h
          refine ⟨List.mem_cons_self, ?_⟩
          intro p hp hpk
          rcases List.mem_cons.1 hp with h1 | h1
          · subst h1; exact Int.le_refl _
          · have := ih.2 p h1 hpk; omega
        · rw [if_neg hlt] at h
          subst h
          refine ⟨List.mem_cons_of_mem _ ih.1, ?_⟩
          intro p hp hpk
          rcases List.mem_cons.1 hp with h1 | h1
          · subst h1; omega
          · exact ih.2 p h1 hpk
    · have ih := ml_some L k v h
      rename_i hne
      refine ⟨List.mem_cons_of_mem _ ih.1, ?_⟩
      intro p hp hpk
      rcases List.mem_cons.1 hp with h1 | h1
      · subst h1; exact absurd hpk.symm hne
      · exact ih.2 p h1 hpk

theorem ml_same (L L' : List (Key × Int)) (h : ∀ p, p ∈ L ↔ p ∈ L') (k : Key) : ml L k = ml L' k := by
  cases h1 : ml L k with
  | none =>
    cases h2 : ml L' k with
    | none => rfl
    | some v => exact absurd rfl (ml_none L k h1 (k, v) ((h _).2 (ml_some L' k v h2).1))
  | some u =>
    cases h2 : ml L' k with
    | none => exact absurd rfl (ml_none L' k h2 (k, u) ((h _).1 (ml_some L k u h1).1))
    | some v =>
      have a := (ml_some L k u h1).2 (k, v) ((h _).2 (ml_some L' k v h2).1) rfl
      have b := (ml_some L' k v h2).2 (k, u) ((h _).1 (ml_some L k u h1).1) rfl
      simp at a b
      congr 1
      omega
theorem ml_isSome (L : List (Key × Int)) (k : Key) : (ml L k).isSome = decide (k ∈ L.map Prod.fst) := by
  rw [Bool.eq_iff_iff]
  simp only [decide_eq_true_eq, List.mem_map]
  constructor
  · intro h
    cases hM : ml L k with
    | none => rw [hM] at h; cases h
    | some v => exact ⟨(k, v), (ml_some L k v hM).1, rfl⟩
  · rintro ⟨p, hp, rfl⟩
    cases hM : ml L p.1 with
    | none => exact absurd rfl (ml_none L _ hM p hp)
    | some v => rfl

/-- How many different keys there are. -/
def card : List Key → Nat
  | [] => 0
  | k :: L => if k ∈ L then card L else card L + 1

theorem msz_card : ∀ L : List (Key × Int), msz L = card (L.map Prod.fst)
  | [] => rfl
  | p :: L => by
    have ih := msz_card L
    unfold msz grow
    rw [ml_isSome, ih]
    simp only [List.map_cons, card, decide_eq_true_eq]

theorem card_filter (x : Key) : ∀ L : List Key, card L = card (L.filter (fun y => decide (y ≠ x))) + (if x ∈ L then 1 else 0)
  | [] => by simp [card]
  | a :: L => by
    have ih := card_filter x L
    by_cases h : a = x
    · subst h
      have hf : (a :: L).filter (fun y => decide (y ≠ a)) = L.filter (fun y => decide (y ≠ a)) := by simp
      rw [hf]
      have hc : card (a :: L) = if a ∈ L then card L else card L + 1 := rfl
      rw [hc, if_pos List.mem_cons_self]
      by_cases hm : a ∈ L
      · rw [if_pos hm]; rw [if_pos hm] at ih; exact ih
      · rw [if_neg hm]; rw [if_neg hm] at ih; omega
    · have hf : (a :: L).filter (fun y => decide (y ≠ x)) = a :: L.filter (fun y => decide (y ≠ x)) := by simp [h]
      rw [hf]
      have hmem : (a ∈ L.filter (fun y => decide (y ≠ x))) ↔ a ∈ L := by simp [h]
      have hx : (x ∈ a :: L) ↔ x ∈ L := by simp [Ne.symm h]
      have hc : card (a :: L) = if a ∈ L then card L else card L + 1 := rfl
      have hc' : card (a :: L.filter (fun y => decide (y ≠ x))) = if a ∈ L.filter (fun y => decide (y ≠ x)) then card (L.filter (fun y => decide (y ≠ x))) else card (L.filter (fun y => decide (y ≠ x))) + 1 := rfl
      rw [hc, hc']
      by_cases hm : a ∈ L
      · rw [if_pos hm, if_pos (hmem.2 hm), ih]; simp only [hx]
      · rw [if_neg hm, if_neg (fun e => hm (hmem.1 e)), ih]; simp only [hx]; omega

theorem card_same : ∀ (n : Nat) (L L' : List Key), L.length ≤ n → (∀ k, k ∈ L ↔ k ∈ L') → card L = card L'
  | _, [], L', _, h => by
    cases L' with
    | nil => rfl
    | cons a T => exact absurd ((h a).2 List.mem_cons_self) (by simp)
  | 0, a :: T, _, hl, _ => by simp at hl
  | n + 1, a :: T, L', hl, h => by
    rw [card_filter a (a :: T), card_filter a L']
    have h1 := card_same n ((a :: T).filter (fun y => decide (y ≠ a))) (L'.filter (fun y => decide (y ≠ a))) (by
      have : (a :: T).filter (fun y => decide (y ≠ a)) = T.filter (fun y => decide (y ≠ a)) := by simp
      rw [this]
      have := List.length_filter_le (fun y => decide (y ≠ a)) T
      simp at hl
      omega) (fun k => by simp only [List.mem_filter]; rw [h k])
    rw [h1, if_pos List.mem_cons_self, if_pos ((h a).1 List.mem_cons_self)]

/-- Block b is a set of at most n keys, those of S. -/
def BMap (w : World) (b n : Nat) (S : List Key) : Prop :=
  ∃ D : DataW Unit, w.ownsMap Try.prog 9 (plainElem Try.prog 4) b n D ∧ (∀ k : Key, Maps.has D (.string k) = decide (k ∈ S)) ∧ Maps.size D = card S

theorem BMap.made (w : World) : BMap (w.alloc (.map #[] 0)) w.heap.size 0 [] :=
  ⟨.map [], World.ownsMap_made _ _ _ _, fun k => by simp [Maps.has], rfl⟩
theorem BMap.kept {w w' : World} {b n : Nat} {S : List Key} {row : Option Nat} (h : BMap w b n S) (hg : w.grownBy w' row) (hne : some b ≠ row) : BMap w' b n S := by
  obtain ⟨D, h1, h2⟩ := h
  exact ⟨D, h1.kept hg hne, h2⟩
theorem BMap.alloc {w : World} {b n : Nat} {S : List Key} (h : BMap w b n S) (o : Obj) : BMap (w.alloc o) b n S := by
  obtain ⟨D, h1, h2⟩ := h
  exact ⟨D, h1.alloc o, h2⟩
theorem BMap.mono {w : World} {b n m : Nat} {S : List Key} (h : BMap w b n S) (hm : n ≤ m) : BMap w b m S := by
  obtain ⟨D, h1, h2⟩ := h
  exact ⟨D, h1.mono hm, h2⟩
theorem BMap.lt {w : World} {b n : Nat} {S : List Key} (h : BMap w b n S) : b < w.heap.size := by
  obtain ⟨D, h1, _⟩ := h
  exact h1.lt
theorem BMap.len {w : World} {b n : Nat} {S : List Key} (h : BMap w b n S) (ty : TypeId) :
    (Builtin.len_ #[31] ty #[.map (some b)]).run Try.prog w = .ok (.int .i64 (card S)) w := by
  obtain ⟨D, h1, _, h3⟩ := h
  rw [← h3]
  exact h1.len Try.underlying31 ty
theorem BMap.store {w : World} {b n : Nat} {S : List Key} (h : BMap w b n S) (hn : n < maxLen) {s : ByteArray} (hs : s.size ≤ maxLen) :
    ∃ w', (Instr.mapUpdate 31 (.map (some b)) (.string s) (.bool true)).run Try.prog w = .ok () w' ∧ BMap w' b (n + 1) (key s :: S) ∧ w.grownBy w' (some b) := by
  obtain ⟨D, h1, h2, h3⟩ := h
  obtain ⟨w', hrun, hown, ht⟩ := h1.store law Try.underlying31 hn (key_of hs) (plainElem_bool (H := Unit) Try.underlying4 true)
  refine ⟨w', hrun, ⟨_, hown, ?_, ?_⟩, ht.grown⟩
  · intro k
    by_cases hk : k = key s
    · subst hk
      rw [has_put_same (k := .string (key s)) h1.isMap trivial]; simp
    · rw [has_put_other (by simpa using hk), h2]
      simp [hk]
  · rw [size_put (h1.tidy law), h2, h3]
    simp only [card, decide_eq_true_eq]

def pr (K : Nat → ByteArray) (V : Nat → Int) (i : Nat) : Key × Int := (key (K i), V i)
/-- The first k pairs, the last first. -/
def fwdL (K : Nat → ByteArray) (V : Nat → Int) : Nat → List (Key × Int)
  | 0 => []
  | k + 1 => pr K V k :: fwdL K V k
/-- The last d of n pairs, the first of them first. -/
def revL (K : Nat → ByteArray) (V : Nat → Int) (n : Nat) : Nat → List (Key × Int)
  | 0 => []
  | d + 1 => pr K V (n - (d + 1)) :: revL K V n d

theorem mem_fwd (K : Nat → ByteArray) (V : Nat → Int) (p : Key × Int) : ∀ n, p ∈ fwdL K V n ↔ ∃ i, i < n ∧ p = pr K V i
  | 0 => by simp [fwdL]
  | n + 1 => by
    unfold fwdL
    rw [List.mem_cons, mem_fwd K V p n]
    constructor
    · rintro (h | ⟨i, hi, h⟩)
      · exact ⟨n, by omega, h⟩
      · exact ⟨i, by omega, h⟩
    · rintro ⟨i, hi, h⟩
      by_cases hin : i = n
      · subst hin; exact .inl h
      · exact .inr ⟨i, by omega, h⟩
theorem mem_rev (K : Nat → ByteArray) (V : Nat → Int) (n : Nat) (p : Key × Int) : ∀ d, d ≤ n → (p ∈ revL K V n d ↔ ∃ i, n - d ≤ i ∧ i < n ∧ p = pr K V i)
  | 0, _ => by
    simp only [revL, List.not_mem_nil, false_iff]
    rintro ⟨i, h1, h2, _⟩
    omega
  | d + 1, hd => by
    unfold revL
    rw [List.mem_cons, mem_rev K V n p d (by omega)]
    constructor
    · rintro (h | ⟨i, h1, h2, h⟩)
      · exact ⟨n - (d + 1), by omega, by omega, h⟩
      · exact ⟨i, by omega, h2, h⟩
    · rintro ⟨i, h1, h2, h⟩
      by_cases hin : i = n - (d + 1)
      · subst hin; exact .inl h
      · exact .inr ⟨i, by omega, h2, h⟩
theorem fwd_rev (K : Nat → ByteArray) (V : Nat → Int) (n : Nat) (p : Key × Int) : p ∈ fwdL K V n ↔ p ∈ revL K V n n := by
  rw [mem_fwd, mem_rev K V n p n (Nat.le_refl _)]
  constructor
  · rintro ⟨i, h, e⟩; exact ⟨i, by omega, h, e⟩
  · rintro ⟨i, _, h, e⟩; exact ⟨i, h, e⟩
theorem rev_ml (K : Nat → ByteArray) (V : Nat → Int) (n : Nat) (k : Key) : ml (revL K V n n) k = ml (fwdL K V n) k :=
  (ml_same _ _ (fwd_rev K V n) k).symm
theorem rev_sz (K : Nat → ByteArray) (V : Nat → Int) (n : Nat) : msz (revL K V n n) = msz (fwdL K V n) := by
  rw [msz_card, msz_card]
  apply card_same _ _ _ (Nat.le_refl _)
  intro k
  simp only [List.mem_map]
  constructor
  · rintro ⟨p, hp, e⟩; exact ⟨p, (fwd_rev K V n p).2 hp, e⟩
  · rintro ⟨p, hp, e⟩; exact ⟨p, (fwd_rev K V n p).1 hp, e⟩
/-- Each path's least is there, no greater than any that was given. -/
theorem fwd_at (K : Nat → ByteArray) (V : Nat → Int) (n i : Nat) (hi : i < n) : ∃ v, ml (fwdL K V n) (key (K i)) = some v ∧ v ≤ V i := by
  have hm : pr K V i ∈ fwdL K V n := (mem_fwd K V _ n).2 ⟨i, hi, rfl⟩
  cases h : ml (fwdL K V n) (key (K i)) with
  | none => exact absurd rfl (ml_none _ _ h _ hm)
  | some v => exact ⟨v, rfl, (ml_some _ _ v h).2 _ hm rfl⟩
/-- The keys at which the least was met are all of them. -/
theorem hit_all (K : Nat → ByteArray) (V : Nat → Int) (n : Nat) (H : List Key) (h : ∀ q, q ∈ H ↔ ∃ i, i < n ∧ q = key (K i) ∧ ml (fwdL K V n) q = some (V i)) :
    card H = card ((fwdL K V n).map Prod.fst) := by
  apply card_same _ _ _ (Nat.le_refl _)
  intro q
  rw [h, List.mem_map]
  constructor
  · rintro ⟨i, hi, e, _⟩; exact ⟨pr K V i, (mem_fwd K V _ n).2 ⟨i, hi, rfl⟩, e.symm⟩
  · rintro ⟨p, hp, e⟩
    obtain ⟨i, hi, rfl⟩ := (mem_fwd K V p n).1 hp
    obtain ⟨v, hv, _⟩ := fwd_at K V n i hi
    have e' : key (K i) = q := e
    rw [e'] at hv
    obtain ⟨j, hj, ej⟩ := (mem_fwd K V _ n).1 (ml_some _ _ v hv).1
    have e1 : q = key (K j) := congrArg Prod.fst ej
    have e2 : v = V j := congrArg Prod.snd ej
    exact ⟨j, hj, e1, by rw [hv, e2]⟩
end Go.Proofs.Qxb6617992a.Keep
