import Derived.Test.Qxb6617969aGraph
import Derived.Maps.AppendAt
import Derived.OwnWalk
namespace Go.Proofs.Qxb6617969a.Deep
open Go.RowKit

def nodeV (b : Nat) : Value := .pointer (some ⟨b, 0, none⟩)
def intV (x : Int) : Value := .int .i64 x
def boolV (x : Bool) : Value := .bool x

/-- Two slices lie in two rows. -/
def Dis (u v : Value) : Prop := ∀ k, u.ownBlock = some k → v.ownBlock ≠ some k
theorem Dis.symm {u v : Value} (h : Dis u v) : Dis v u := fun k hk hu => h k hu hk

/-- The law's three slices, held in blocks N, N + 1, N + 2; their rows lie from N + 3 on. -/
structure Arr (N : Nat) (w : World) (u v z : Value) (A : List Nat) (Ps : List Int) (Cs : List Bool) : Prop where
  c1 : w.cell? ⟨N, 0, none⟩ = some u
  c2 : w.cell? ⟨N + 1, 0, none⟩ = some v
  c3 : w.cell? ⟨N + 1 + 1, 0, none⟩ = some z
  f1 : w.frozen? ⟨N, 0, none⟩ = false
  f2 : w.frozen? ⟨N + 1, 0, none⟩ = false
  f3 : w.frozen? ⟨N + 1 + 1, 0, none⟩ = false
  o1 : w.ownsRow (N + 3) 35 1 u A.length (A.map nodeV)
  o2 : w.ownsRow (N + 3) 3 1 v Ps.length (Ps.map intV)
  o3 : w.ownsRow (N + 3) 4 1 z Cs.length (Cs.map boolV)
  d12 : Dis u v
  d13 : Dis u z
  d23 : Dis v z
  sz : N + 3 ≤ w.heap.size

/-- A block that nothing of what is to come writes. -/
def Safe (N : Nat) (w : World) (u v z : Value) (k : Nat) : Prop := N + 3 ≤ k ∧ k < w.heap.size ∧ u.ownBlock ≠ some k ∧ v.ownBlock ≠ some k ∧ z.ownBlock ≠ some k

/-- What was safe is as it was, and safe; below N nothing has turned. -/
structure Fr (N : Nat) (w : World) (u v z : Value) (w' : World) (u' v' z' : Value) : Prop where
  safe : ∀ k, Safe N w u v z k → Safe N w' u' v' z' k ∧ w'.heap[k]? = w.heap[k]?
  below : Below N w w'

theorem Fr.refl (N : Nat) (w : World) (u v z : Value) : Fr N w u v z w u v z := ⟨fun _ h => ⟨h, rfl⟩, Below.refl _ _⟩
theorem Fr.trans {N : Nat} {w w' w'' : World} {u v z u' v' z' u'' v'' z'' : Value} (h : Fr N w u v z w' u' v' z') (g : Fr N w' u' v' z' w'' u'' v'' z'') : Fr N w u v z w'' u'' v'' z'' :=
  ⟨fun k hk => by
    obtain ⟨a, b⟩ := h.safe k hk
    obtain ⟨c, d⟩ := g.safe k a
    exact ⟨c, d.trans b⟩, h.below.trans g.below⟩
theorem Fr.alloc {N : Nat} {w w' : World} {u v z u' v' z' : Value} (h : Fr N w u v z w' u' v' z') (hs : N ≤ w'.heap.size) (o : Obj) : Fr N w u v z (w'.alloc o) u' v' z' :=
  ⟨fun k hk => by
    obtain ⟨⟨a, b, c⟩, d⟩ := h.safe k hk
    exact ⟨⟨a, by simp; omega, c⟩, (Below.heap_alloc _ _ _ b).trans d⟩, h.below.alloc hs o⟩
theorem Fr.drewN {N : Nat} {w w' : World} {u v z u' v' z' : Value} (h : Fr N w u v z w' u' v' z') (m : Nat) : Fr N w u v z (w'.drewN m) u' v' z' :=
  ⟨fun k hk => h.safe k hk, below_drewN h.below m⟩
theorem Fr.drew {N : Nat} {w w' : World} {u v z u' v' z' : Value} (h : Fr N w u v z w' u' v' z') : Fr N w u v z w'.drew u' v' z' := h.drewN 1
/-- A store into a block that was not safe at the start. -/
theorem Fr.setCell {N : Nat} {w w' : World} {u v z u' v' z' : Value} (h : Fr N w u v z w' u' v' z') (a : Addr) (x : Value) (hN : N ≤ a.block) (hn : ¬ Safe N w u v z a.block) : Fr N w u v z (w'.setCell a x) u' v' z' :=
  ⟨fun k hk => by
    obtain ⟨⟨p, q, r⟩, d⟩ := h.safe k hk
    have hne : k ≠ a.block := fun e => hn (e ▸ hk)
    exact ⟨⟨p, by simpa [World.setCell] using q, r⟩, (Below.heap_setCell _ _ _ _ hne).trans d⟩, h.below.setCell hN x⟩

theorem Arr.alloc {N : Nat} {w : World} {u v z : Value} {A : List Nat} {Ps : List Int} {Cs : List Bool} (h : Arr N w u v z A Ps Cs) (o : Obj) : Arr N (w.alloc o) u v z A Ps Cs := by
  have hs := h.sz
  refine ⟨?_, ?_, ?_, ?_, ?_, ?_, h.o1.alloc o, h.o2.alloc o, h.o3.alloc o, h.d12, h.d13, h.d23, by simp; omega⟩
  · rw [World.cell?_alloc_past _ _ _ (by omega)]; exact h.c1
  · rw [World.cell?_alloc_past _ _ _ (by omega)]; exact h.c2
  · rw [World.cell?_alloc_past _ _ _ (by omega)]; exact h.c3
  · rw [World.frozen?_alloc_past _ _ _ (by omega)]; exact h.f1
  · rw [World.frozen?_alloc_past _ _ _ (by omega)]; exact h.f2
  · rw [World.frozen?_alloc_past _ _ _ (by omega)]; exact h.f3
theorem Arr.drewN {N : Nat} {w : World} {u v z : Value} {A : List Nat} {Ps : List Int} {Cs : List Bool} (h : Arr N w u v z A Ps Cs) (m : Nat) : Arr N (w.drewN m) u v z A Ps Cs :=
  ⟨h.c1, h.c2, h.c3, h.f1, h.f2, h.f3, h.o1, h.o2, h.o3, h.d12, h.d13, h.d23, h.sz⟩

theorem own_form {B : Nat} {e : TypeId} {w : World} {u : Value} {n : Nat} {X : List Value} (h : w.ownsRow B e 1 u n X) : ∃ a cap, u = .slice a n cap := by
  rcases h.2 with ⟨rfl, h0⟩ | ⟨g, cap, cur, rfl, _⟩
  · exact ⟨none, 0, by rw [h0]⟩
  · exact ⟨_, cap, rfl⟩

/-- An append of one element: its run, and what lies there behind it. -/
theorem app_run {B : Nat} {w : World} {a : Option Addr} {n cap : Nat} {X : List Value} (t e : TypeId) (z x : Value) (bytes : Nat) (ht : Try.prog.underlying t = some (.slice e)) (hinfo : (Try.prog.info? e).map (fun i => (i.zero, i.size, i.bytes)) = some (some z, 1, bytes))
    (hz : z.cells.size = 1) (hx : x.oneCell' = true) (ho : w.ownsRow B e 1 (.slice a n cap) n X) (h63 : n + 1 ≤ maxLen) (hb : (n + 1) * bytes ≤ 140737488355328) (hB : B ≤ w.heap.size) :
    ∃ a' cap' w', (∀ ty, (Builtin.append_ #[t, t] ty #[.slice a n cap, .slice (some ⟨w.heap.size, 0, none⟩) 1 1]).run Try.prog (w.alloc (.cells #[x] e)) = .ok (.slice a' (n + 1) cap') w') ∧
      w'.ownsRow B e 1 (.slice a' (n + 1) cap') (n + 1) (X ++ [x]) ∧ (w.alloc (.cells #[x] e)).grownBy w' (Value.slice a n cap).ownBlock ∧
      ((Value.slice a' (n + 1) cap').ownBlock = (Value.slice a n cap).ownBlock ∨ (Value.slice a' (n + 1) cap').ownBlock = some (w.heap.size + 1)) := by
  obtain ⟨i0, hi, hz0, hz1, hz2⟩ := info_parts hinfo
  have h := fun ty => run_append_own_at (P := Try.prog) (w.alloc (.cells #[x] e)) B t ty e i0 z 1 bytes ht hi hz0 hz1 hz2 hz (by decide) _ n X (ho.alloc _) ⟨w.heap.size, 0, none⟩ 1 1 [x] rfl (cell_one_new _ _ _) (by intro y hy; simp at hy; subst hy; exact hx) h63 hb (by simp; omega)
  obtain ⟨v', w', hrun, h1, h2, _, h4⟩ := h 0
  obtain ⟨a', cap', rfl⟩ := own_form h1
  refine ⟨a', cap', w', fun ty => ?_, h1, h2, by simpa using h4⟩
  obtain ⟨v'', w'', hrun', _⟩ := h ty
  have : (Builtin.append_ #[t, t] ty #[.slice a n cap, .slice (some ⟨w.heap.size, 0, none⟩) 1 1]) = (Builtin.append_ #[t, t] 0 #[.slice a n cap, .slice (some ⟨w.heap.size, 0, none⟩) 1 1]) := rfl
  rw [this]
  exact hrun

/-- What an append to a row u leaves of another row. -/
theorem row_keep {B : Nat} {e : TypeId} {w w1 : World} {u v : Value} {n : Nat} {Y : List Value} {O : Obj} (ho : w.ownsRow B e 1 v n Y) (hd : Dis u v) (hg : (w.alloc O).grownBy w1 u.ownBlock) : w1.ownsRow B e 1 v n Y := by
  refine (ho.alloc O).kept hg ?_
  cases hv : v.ownBlock with
  | none => exact .inl rfl
  | some k => exact .inr (fun e => hd k e.symm hv)
theorem dis_keep {B : Nat} {e : TypeId} {w : World} {u u' v : Value} {n : Nat} {Y : List Value} (ho : w.ownsRow B e 1 v n Y) (hd : Dis u v) (hat : u'.ownBlock = u.ownBlock ∨ u'.ownBlock = some (w.heap.size + 1)) : Dis u' v := by
  intro k hk hv
  rcases hat with h | h
  · exact hd k (h ▸ hk) hv
  · have := (ho.lt k hv).2
    rw [h] at hk
    simp at hk
    omega
/-- A cell below the rows, behind an append. -/
theorem low_keep {N : Nat} {e : TypeId} {w w1 : World} {u : Value} {n : Nat} {X : List Value} {O : Obj} (ho : w.ownsRow (N + 3) e 1 u n X) (hg : (w.alloc O).grownBy w1 u.ownBlock) (hs : N + 3 ≤ w.heap.size) (k : Nat) (hk : k < N + 3) : w1.heap[k]? = w.heap[k]? := by
  rw [hg.block k (by simp; omega) (fun h => by have := (ho.lt k h.symm).1; omega)]
  exact Below.heap_alloc w O k (by omega)
/-- The frame of an append and the store of the new slice. -/
theorem fr_app {N : Nat} {e : TypeId} {w w1 : World} {u v z u' v' z' : Value} {x : Value} {n : Nat} {X : List Value} {O : Obj} {y y' : Value} (ho : w.ownsRow (N + 3) e 1 y n X) (hg : (w.alloc O).grownBy w1 y.ownBlock) (hs : N + 3 ≤ w.heap.size) (a : Addr) (ha : N ≤ a.block) (ha' : a.block < N + 3)
    (hy : y = u ∨ y = v ∨ y = z) (hat : y'.ownBlock = y.ownBlock ∨ y'.ownBlock = some (w.heap.size + 1)) (hu : u' = u ∨ (y = u ∧ u' = y')) (hv : v' = v ∨ (y = v ∧ v' = y')) (hz : z' = z ∨ (y = z ∧ z' = y')) : Fr N w u v z (w1.setCell a x) u' v' z' := by
  have hsz : w.heap.size + 1 ≤ w1.heap.size := by have := hg.size; simpa using this
  constructor
  · intro k hk
    obtain ⟨h1, h2, h3, h4, h5⟩ := hk
    have hne : y.ownBlock ≠ some k := by rcases hy with rfl | rfl | rfl <;> assumption
    have hne' : y'.ownBlock ≠ some k := by
      rcases hat with h | h
      · rw [h]; exact hne
      · rw [h]; simp; omega
    refine ⟨⟨h1, by simp [World.setCell]; omega, ?_, ?_, ?_⟩, ?_⟩
    · rcases hu with rfl | ⟨_, rfl⟩ <;> assumption
    · rcases hv with rfl | ⟨_, rfl⟩ <;> assumption
    · rcases hz with rfl | ⟨_, rfl⟩ <;> assumption
    · rw [Below.heap_setCell _ _ _ _ (by omega), hg.block k (by simp; omega) (fun h => hne h.symm)]
      exact Below.heap_alloc w O k h2
  · refine Below.setCell (((Below.refl N w).alloc (by omega) O).grown hg (by simp; omega) ?_) ha x
    intro k hk
    have := (ho.lt k hk).1
    omega

section
variable {N : Nat} {w w1 : World} {u v z : Value} {A : List Nat} {Ps : List Int} {Cs : List Bool} {O : Obj} {y' : Value}

theorem low_cell {w' : World} (h : ∀ k, k < N + 3 → w'.heap[k]? = w.heap[k]?) {k : Nat} (hk : k < N + 3) {x : Value} (hc : w.cell? ⟨k, 0, none⟩ = some x) : w'.cell? ⟨k, 0, none⟩ = some x :=
  (World.cell?_of_block (h k hk)).trans hc
theorem low_frozen {w' : World} (h : ∀ k, k < N + 3 → w'.heap[k]? = w.heap[k]?) {k : Nat} (hk : k < N + 3) (hc : w.frozen? ⟨k, 0, none⟩ = false) : w'.frozen? ⟨k, 0, none⟩ = false :=
  (World.frozen?_of_block (h k hk)).trans hc

theorem Arr.app1 (h : Arr N w u v z A Ps Cs) (b : Nat) (ho : w1.ownsRow (N + 3) 35 1 y' (A.length + 1) (A.map nodeV ++ [nodeV b])) (hg : (w.alloc O).grownBy w1 u.ownBlock) (hat : y'.ownBlock = u.ownBlock ∨ y'.ownBlock = some (w.heap.size + 1)) :
    Arr N (w1.setCell ⟨N, 0, none⟩ y') y' v z (A ++ [b]) Ps Cs ∧ Fr N w u v z (w1.setCell ⟨N, 0, none⟩ y') y' v z := by
  have hs := h.sz
  have hsz : w.heap.size + 1 ≤ w1.heap.size := by have := hg.size; simpa using this
  have hl := low_keep h.o1 hg hs
  refine ⟨⟨?_, ?_, ?_, ?_, ?_, ?_, ?_, ?_, ?_, ?_, ?_, h.d23, by simp [World.setCell]; omega⟩, fr_app h.o1 hg hs _ (by simp) (by simp) (.inl rfl) hat (.inr ⟨rfl, rfl⟩) (.inl rfl) (.inl rfl)⟩
  · exact World.cell?_setCell_same _ _ _ (low_cell hl (by omega) h.c1)
  · exact (World.cell?_setCell_other _ _ _ _ (by simp)).trans (low_cell hl (by omega) h.c2)
  · exact (World.cell?_setCell_other _ _ _ _ (by simp)).trans (low_cell hl (by omega) h.c3)
  · simpa using low_frozen hl (by omega) h.f1
  · simpa using low_frozen hl (by omega) h.f2
  · simpa using low_frozen hl (by omega) h.f3
  · have := ownsRow_setCell_below ho (a := ⟨N, 0, none⟩) (by simp) y'
    simpa using this
  · exact ownsRow_setCell_below (row_keep h.o2 h.d12 hg) (by simp) y'
  · exact ownsRow_setCell_below (row_keep h.o3 h.d13 hg) (by simp) y'
  · exact dis_keep h.o2 h.d12 hat
  · exact dis_keep h.o3 h.d13 hat

theorem Arr.app2 (h : Arr N w u v z A Ps Cs) (p : Int) (ho : w1.ownsRow (N + 3) 3 1 y' (Ps.length + 1) (Ps.map intV ++ [intV p])) (hg : (w.alloc O).grownBy w1 v.ownBlock) (hat : y'.ownBlock = v.ownBlock ∨ y'.ownBlock = some (w.heap.size + 1)) :
    Arr N (w1.setCell ⟨N + 1, 0, none⟩ y') u y' z A (Ps ++ [p]) Cs ∧ Fr N w u v z (w1.setCell ⟨N + 1, 0, none⟩ y') u y' z := by
  have hs := h.sz
  have hsz : w.heap.size + 1 ≤ w1.heap.size := by have := hg.size; simpa using this
  have hl := low_keep h.o2 hg hs
  refine ⟨⟨?_, ?_, ?_, ?_, ?_, ?_, ?_, ?_, ?_, ?_, h.d13, ?_, by simp [World.setCell]; omega⟩, fr_app h.o2 hg hs _ (by simp) (by simp) (.inr (.inl rfl)) hat (.inl rfl) (.inr ⟨rfl, rfl⟩) (.inl rfl)⟩
  · exact (World.cell?_setCell_other _ _ _ _ (by simp)).trans (low_cell hl (by omega) h.c1)
  · exact World.cell?_setCell_same _ _ _ (low_cell hl (by omega) h.c2)
  · exact (World.cell?_setCell_other _ _ _ _ (by simp)).trans (low_cell hl (by omega) h.c3)
  · simpa using low_frozen hl (by omega) h.f1
  · simpa using low_frozen hl (by omega) h.f2
  · simpa using low_frozen hl (by omega) h.f3
  · exact ownsRow_setCell_below (row_keep h.o1 h.d12.symm hg) (by simp) y'
  · have := ownsRow_setCell_below ho (a := ⟨N + 1, 0, none⟩) (by simp) y'
    simpa using this
  · exact ownsRow_setCell_below (row_keep h.o3 h.d23 hg) (by simp) y'
  · exact (dis_keep h.o1 h.d12.symm hat).symm
  · exact dis_keep h.o3 h.d23 hat

theorem Arr.app3 (h : Arr N w u v z A Ps Cs) (c : Bool) (ho : w1.ownsRow (N + 3) 4 1 y' (Cs.length + 1) (Cs.map boolV ++ [boolV c])) (hg : (w.alloc O).grownBy w1 z.ownBlock) (hat : y'.ownBlock = z.ownBlock ∨ y'.ownBlock = some (w.heap.size + 1)) :
    Arr N (w1.setCell ⟨N + 1 + 1, 0, none⟩ y') u v y' A Ps (Cs ++ [c]) ∧ Fr N w u v z (w1.setCell ⟨N + 1 + 1, 0, none⟩ y') u v y' := by
  have hs := h.sz
  have hsz : w.heap.size + 1 ≤ w1.heap.size := by have := hg.size; simpa using this
  have hl := low_keep h.o3 hg hs
  refine ⟨⟨?_, ?_, ?_, ?_, ?_, ?_, ?_, ?_, ?_, h.d12, ?_, ?_, by simp [World.setCell]; omega⟩, fr_app h.o3 hg hs _ (by simp; omega) (by simp) (.inr (.inr rfl)) hat (.inl rfl) (.inl rfl) (.inr ⟨rfl, rfl⟩)⟩
  · exact (World.cell?_setCell_other _ _ _ _ (by simp)).trans (low_cell hl (by omega) h.c1)
  · exact (World.cell?_setCell_other _ _ _ _ (by simp)).trans (low_cell hl (by omega) h.c2)
  · exact World.cell?_setCell_same _ _ _ (low_cell hl (by omega) h.c3)
  · simpa using low_frozen hl (by omega) h.f1
  · simpa using low_frozen hl (by omega) h.f2
  · simpa using low_frozen hl (by omega) h.f3
  · exact ownsRow_setCell_below (row_keep h.o1 h.d13.symm hg) (by simp) y'
  · exact ownsRow_setCell_below (row_keep h.o2 h.d23.symm hg) (by simp) y'
  · have := ownsRow_setCell_below ho (a := ⟨N + 1 + 1, 0, none⟩) (by simp) y'
    simpa using this
  · exact (dis_keep h.o1 h.d13.symm hat).symm
  · exact (dis_keep h.o2 h.d23.symm hat).symm
end
end Go.Proofs.Qxb6617969a.Deep
