import Derived.Test.Qxb6617969aArr
import Derived.OneCell
import Derived.Laws.MakeOwn
namespace Go.Proofs.Qxb6617969a.Deep
open Go.RowKit

theorem Arr.setSafe {N : Nat} {w : World} {u v z : Value} {A : List Nat} {Ps : List Int} {Cs : List Bool} (h : Arr N w u v z A Ps Cs) (a : Addr) (x : Value) (hs : Safe N w u v z a.block) : Arr N (w.setCell a x) u v z A Ps Cs := by
  obtain ⟨s1, s2, s3, s4, s5⟩ := hs
  have hne : ∀ k, k < N + 3 → a ≠ ⟨k, 0, none⟩ := by rintro k hk rfl; simp at s1; omega
  refine ⟨?_, ?_, ?_, ?_, ?_, ?_, ownsRow_setCell_other h.o1 s3 x, ownsRow_setCell_other h.o2 s4 x, ownsRow_setCell_other h.o3 s5 x, h.d12, h.d13, h.d23, by simpa [World.setCell] using h.sz⟩
  · exact (World.cell?_setCell_other _ _ _ _ (hne _ (by omega))).trans h.c1
  · exact (World.cell?_setCell_other _ _ _ _ (hne _ (by omega))).trans h.c2
  · exact (World.cell?_setCell_other _ _ _ _ (hne _ (by omega))).trans h.c3
  · simpa using h.f1
  · simpa using h.f2
  · simpa using h.f3

theorem safe_set {N : Nat} {w : World} {u v z : Value} {k : Nat} (h : Safe N w u v z k) (a : Addr) (x : Value) : Safe N (w.setCell a x) u v z k :=
  ⟨h.1, by simpa [World.setCell] using h.2.1, h.2.2⟩

/-- A block just laid is safe. -/
theorem safe_new {N : Nat} {w : World} {u v z : Value} {A : List Nat} {Ps : List Int} {Cs : List Bool} (h : Arr N w u v z A Ps Cs) (o : Obj) : Safe N (w.alloc o) u v z w.heap.size :=
  ⟨h.sz, by simp, fun e => by have := (h.o1.lt _ e).2; omega, fun e => by have := (h.o2.lt _ e).2; omega, fun e => by have := (h.o3.lt _ e).2; omega⟩

/-- The children's preorder lists. -/
def kidsK (n : Nat) (kids : List (Tree n)) (me j : Nat) : List (Int × Bool) := seqK (fun c nx => ps n c (me : Int) nx) (kids.take j) (me + 1)

theorem kidsK_zero (n : Nat) (kids : List (Tree n)) (me : Nat) : kidsK n kids me 0 = [] := by simp [kidsK, seqK]
theorem kidsK_succ (n : Nat) (kids : List (Tree n)) (me j : Nat) (h : j < kids.length) : kidsK n kids me (j + 1) = kidsK n kids me j ++ ps n (kids[j]'h) (me : Int) (me + 1 + (kidsK n kids me j).length) := by
  unfold kidsK
  rw [List.take_succ_eq_append_getElem h, seqK_snoc]
theorem kidsK_all (n : Nat) (kids : List (Tree n)) (me : Nat) : kidsK n kids me kids.length = seqK (fun c nx => ps n c (me : Int) nx) kids (me + 1) := by
  unfold kidsK
  rw [List.take_length]
theorem kidsK_offs (n : Nat) (kids : List (Tree n)) (me : Nat) : ∀ j, j ≤ kids.length → (kidsK n kids me j).length = offs n kids j
  | 0, _ => by rw [kidsK_zero, offs_zero]; rfl
  | j + 1, h => by
    rw [kidsK_succ n kids me j (by omega), offs_succ n kids j (by omega), List.length_append, kidsK_offs n kids me j (by omega), ps_len n _ _ 0 _ 0]

theorem sum_take_le (l : List Nat) : ∀ j, (l.take j).sum ≤ l.sum := by
  induction l with
  | nil => intro j; simp
  | cons a l ih =>
    intro j
    cases j with
    | zero => simp
    | succ j => have := ih j; simp only [List.take_succ_cons, List.sum_cons]; omega

theorem kids_room (n : Nat) (kids : List (Tree n)) (me j : Nat) (h : j < kids.length) : (kidsK n kids me j).length + cnt n (kids[j]'h) + 1 ≤ kids.length + (kids.map (cnt n)).sum := by
  have h1 := seqK_le (fun c nx => ps n c (me : Int) nx) (cnt n) (fun c nx => ps_le n c _ nx) (kids.take j) (me + 1)
  have h2 : ((kids.take (j + 1)).map (cnt n)).sum ≤ (kids.map (cnt n)).sum := by rw [List.map_take]; exact sum_take_le _ _
  rw [List.take_succ_eq_append_getElem h, List.map_append, List.sum_append] at h2
  simp only [List.map_cons, List.map_nil, List.sum_cons, List.sum_nil] at h2
  rw [List.length_take] at h1
  unfold kidsK
  omega

theorem made_cell (m i : Nat) (h : i < m) : (madeCells (Value.pointer none).cells (m * 1))[i]? = some (.pointer none) := by
  simp [madeCells, Value.cells, h, Nat.mod_one]

/-- What 'zzBuild' leaves. -/
def Built (N : Nat) (w : World) (u v z : Value) (A : List Nat) (Ps : List Int) (Cs : List Bool) (n : Nat) (t : Tree n) (p : Int) (e : Ending) (w' : World) : Prop :=
  ∃ pv u' v' z' A', e = .returned (.pointer pv) ∧ Arr N w' u' v' z' (A ++ A') (Ps ++ (ps n t p A.length).map Prod.fst) (Cs ++ (ps n t p A.length).map Prod.snd) ∧ A'.length = (ps n t p A.length).length ∧
    GAt (fun k => Safe N w' u' v' z' k ∧ w.heap.size ≤ k) w' (A ++ A') n t (.pointer pv) A.length ∧ Fr N w u v z w' u' v' z'

/-- What holds between two rounds over the children. -/
structure Mid (N : Nat) (w5 : World) (s1 s2 s3 : Value) (A0 : List Nat) (P0 : List Int) (C0 : List Bool) (n : Nat) (kids : List (Tree n)) (me g j : Nat) (wr : World) (u v z : Value) (B : List Nat) : Prop where
  arr : Arr N wr u v z (A0 ++ B) (P0 ++ (kidsK n kids me j).map Prod.fst) (C0 ++ (kidsK n kids me j).map Prod.snd)
  len : B.length = (kidsK n kids me j).length
  fr : Fr N w5 s1 s2 s3 wr u v z
  sg : Safe N wr u v z g
  row : ∀ i, i < kids.length → (∃ x, wr.cell? ⟨g, i, none⟩ = some x) ∧ wr.frozen? ⟨g, i, none⟩ = false
  done : ∀ i (h : i < kids.length), i < j → ∃ x, wr.cell? ⟨g, i, none⟩ = some x ∧ GAt (fun q => Safe N wr u v z q ∧ g + 1 ≤ q) wr (A0 ++ B) n (kids[i]'h) x (me + 1 + offs n kids i)

theorem Mid.start {N : Nat} {w5 : World} {s1 s2 s3 : Value} {A0 : List Nat} {P0 : List Int} {C0 : List Bool} (h : Arr N w5 s1 s2 s3 A0 P0 C0) (n : Nat) (kids : List (Tree n)) (me : Nat) :
    Mid N w5 s1 s2 s3 A0 P0 C0 n kids me w5.heap.size 0 (w5.alloc (.cells (madeCells (Value.pointer none).cells (kids.length * 1)) 35)) s1 s2 s3 [] := by
  have hh := heap_alloc_new w5 (.cells (madeCells (Value.pointer none).cells (kids.length * 1)) 35)
  refine ⟨?_, ?_, (Fr.refl _ _ _ _ _).alloc (by have := h.sz; omega) _, safe_new h _, ?_, ?_⟩
  · rw [kidsK_zero]; simpa using h.alloc _
  · rw [kidsK_zero]; rfl
  · intro i hi
    refine ⟨⟨.pointer none, ?_⟩, ?_⟩
    · rw [cell_of_row _ _ _ _ _ _ hh, made_cell _ _ hi]
    · show World.frozen? _ _ = false; unfold World.frozen?; rw [show (⟨w5.heap.size, i, none⟩ : Addr).block = w5.heap.size from rfl, hh]; simp
  · intro i _ hi; omega

theorem Mid.step {N : Nat} {w5 : World} {s1 s2 s3 : Value} {A0 : List Nat} {P0 : List Int} {C0 : List Bool} {n : Nat} {kids : List (Tree n)} {me g j : Nat} {wr : World} {u v z : Value} {B : List Nat}
    (h : Mid N w5 s1 s2 s3 A0 P0 C0 n kids me g j wr u v z B) (hA0 : A0.length = me + 1) (hg : g = w5.heap.size) (hN : N ≤ g) (hj : j < kids.length) {pv : Option Addr} {u' v' z' : Value} {B' : List Nat} {w7 : World}
    (b1 : Arr N w7 u' v' z' ((A0 ++ B) ++ B') ((P0 ++ (kidsK n kids me j).map Prod.fst) ++ (ps n (kids[j]'hj) (me : Int) (A0 ++ B).length).map Prod.fst) ((C0 ++ (kidsK n kids me j).map Prod.snd) ++ (ps n (kids[j]'hj) (me : Int) (A0 ++ B).length).map Prod.snd))
    (b2 : B'.length = (ps n (kids[j]'hj) (me : Int) (A0 ++ B).length).length)
    (b3 : GAt (fun k => Safe N w7 u' v' z' k ∧ wr.heap.size ≤ k) w7 ((A0 ++ B) ++ B') n (kids[j]'hj) (.pointer pv) (A0 ++ B).length)
    (b4 : Fr N wr u v z w7 u' v' z') :
    Mid N w5 s1 s2 s3 A0 P0 C0 n kids me g (j + 1) (w7.setCell ⟨g, j, none⟩ (.pointer pv)) u' v' z' (B ++ B') := by
  have hlen : (A0 ++ B).length = me + 1 + (kidsK n kids me j).length := by rw [List.length_append, hA0, h.len]
  have hkeep := b4.safe g h.sg
  have hK := kidsK_succ n kids me j hj
  rw [hlen] at b1 b2 b3
  have hcell : ∀ i, w7.cell? ⟨g, i, none⟩ = wr.cell? ⟨g, i, none⟩ := fun i => World.cell?_of_block hkeep.2
  have hfroz : ∀ i, w7.frozen? ⟨g, i, none⟩ = wr.frozen? ⟨g, i, none⟩ := fun i => World.frozen?_of_block hkeep.2
  refine ⟨?_, ?_, (h.fr.trans b4).setCell _ _ hN (fun hs => by have := hs.2.1; simp at this; omega), safe_set hkeep.1 _ _, ?_, ?_⟩
  · rw [hK, List.map_append, List.map_append]
    have := b1.setSafe ⟨g, j, none⟩ (.pointer pv) hkeep.1
    simpa [List.append_assoc] using this
  · rw [hK, List.length_append, List.length_append, h.len, b2]
  · intro i hi
    obtain ⟨⟨x, hx⟩, hf⟩ := h.row i hi
    refine ⟨?_, by rw [World.frozen?_setCell, hfroz]; exact hf⟩
    by_cases he : i = j
    · subst he
      exact ⟨_, World.cell?_setCell_same _ _ _ ((hcell i).trans hx)⟩
    · exact ⟨x, by rw [World.cell?_setCell_other _ _ _ _ (by simp [*]), hcell]; exact hx⟩
  · intro i hi hij
    rw [← List.append_assoc]
    by_cases he : i = j
    · subst he
      obtain ⟨⟨x, hx⟩, _⟩ := h.row i hi
      refine ⟨.pointer pv, World.cell?_setCell_same _ _ _ ((hcell i).trans hx), ?_⟩
      rw [← kidsK_offs n kids me i (by omega)]
      refine GAt.carry ?_ (fun _ _ e => e) n _ _ _ b3
      rintro q ⟨hq1, hq2⟩
      have hgl := h.sg.2.1
      exact ⟨⟨safe_set hq1 _ _, by omega⟩, Below.heap_setCell _ _ _ _ (by simp; omega)⟩
    · obtain ⟨x, hx, hG⟩ := h.done i hi (by omega)
      refine ⟨x, by rw [World.cell?_setCell_other _ _ _ _ (by simp [*]), hcell]; exact hx, ?_⟩
      refine GAt.carry ?_ (fun q b e => ?_) n _ _ _ hG
      · rintro q ⟨hq1, hq2⟩
        have hk := b4.safe q hq1
        exact ⟨⟨safe_set hk.1 _ _, hq2⟩, (Below.heap_setCell _ _ _ _ (by simp; omega)).trans hk.2⟩
      · rw [List.getElem?_append_left (List.getElem?_eq_some_iff.1 e).1]
        exact e

/-- The node without children. -/
theorem built_leaf {N : Nat} {w w5 : World} {s1 s2 s3 u v z : Value} {A : List Nat} {Ps : List Int} {Cs : List Bool} {n : Nat} {k p : Int} {b : Nat}
    (h : Arr N w5 u v z (A ++ [b]) (Ps ++ [p]) (Cs ++ [coll k])) (hf : Fr N w s1 s2 s3 w5 u v z) (hb : Safe N w5 u v z b) (hwb : w.heap.size ≤ b)
    (h0 : w5.cell? ⟨b, 0, none⟩ = some (.int .u8 k)) (h4 : w5.cell? ⟨b, 4, none⟩ = some (.slice none 0 0)) :
    Built N w s1 s2 s3 A Ps Cs (n + 1) (false, k, []) p (.returned (.pointer (some ⟨b, 0, none⟩))) w5 := by
  have e : ps (n + 1) (false, k, []) p A.length = [(p, coll k)] := by rw [ps_succ]; simp [seqK]
  refine ⟨some ⟨b, 0, none⟩, u, v, z, [b], rfl, by rw [e]; exact h, by rw [e]; rfl, ?_, hf⟩
  rw [GAt_succ]
  exact .inr ⟨rfl, b, by simp, rfl, ⟨hb, hwb⟩, h0, .inl ⟨rfl, h4⟩⟩

theorem Mid.built {N : Nat} {w w5 : World} {s1 s2 s3 t1 t2 t3 : Value} {A : List Nat} {Ps : List Int} {Cs : List Bool} {n : Nat} {kids : List (Tree n)} {g b : Nat} {wr : World} {u v z : Value} {B : List Nat} {k p : Int}
    (h : Mid N w5 s1 s2 s3 (A ++ [b]) (Ps ++ [p]) (Cs ++ [coll k]) n kids A.length g kids.length wr u v z B) (hf : Fr N w t1 t2 t3 w5 s1 s2 s3) (hb : Safe N w5 s1 s2 s3 b) (hwb : w.heap.size ≤ b) (hbg : b < g) (hNb : N ≤ b)
    (h0 : w5.cell? ⟨b, 0, none⟩ = some (.int .u8 k)) (h4 : w5.cell? ⟨b, 4, none⟩ = some (.slice none 0 0)) :
    Built N w t1 t2 t3 A Ps Cs (n + 1) (false, k, kids) p (.returned (.pointer (some ⟨b, 0, none⟩))) (wr.setCell ⟨b, 4, none⟩ (.slice (some ⟨g, 0, none⟩) kids.length kids.length)) := by
  have hk := h.fr.safe b hb
  have e : ps (n + 1) (false, k, kids) p A.length = (p, coll k) :: kidsK n kids A.length kids.length := by rw [ps_succ, kidsK_all]; simp
  have ea : A ++ ([b] ++ B) = A ++ [b] ++ B := by simp
  refine ⟨some ⟨b, 0, none⟩, u, v, z, [b] ++ B, rfl, ?_, ?_, ?_, (hf.trans h.fr).setCell _ _ hNb (fun hs => by have := hs.2.1; simp at this; omega)⟩
  · rw [e, ea]
    have := h.arr.setSafe ⟨b, 4, none⟩ (.slice (some ⟨g, 0, none⟩) kids.length kids.length) hk.1
    simpa [List.append_assoc] using this
  · rw [e]; simp [h.len]
  · rw [ea, GAt_succ]
    refine .inr ⟨rfl, b, by simp, rfl, ⟨safe_set hk.1 _ _, hwb⟩, ?_, .inr ⟨g, ⟨safe_set h.sg _ _, by omega⟩, ?_, fun i hi => ?_⟩⟩
    · rw [World.cell?_setCell_other _ _ _ _ (by simp)]
      exact (World.cell?_of_block hk.2).trans h0
    · exact World.cell?_setCell_same _ _ _ ((World.cell?_of_block hk.2).trans h4)
    · obtain ⟨x, hx, hG⟩ := h.done i hi hi
      refine ⟨x, by rw [World.cell?_setCell_other _ _ _ _ (by simp [*])]; exact hx, ?_⟩
      refine GAt.carry ?_ (fun _ _ e => e) n _ _ _ hG
      rintro q ⟨hq1, hq2⟩
      exact ⟨⟨safe_set hq1 _ _, by omega⟩, Below.heap_setCell _ _ _ _ (by simp; omega)⟩
end Go.Proofs.Qxb6617969a.Deep
