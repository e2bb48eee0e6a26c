import Derived.Test.Qxb6617969aKids
namespace Go.Proofs.Qxb6617969a.Deep
open Go.RowKit

/-- Each node's parent lies ahead of it. -/
theorem ps_par : ∀ (n : Nat) (t : Tree n) (p : Int) (me i : Nat) (q : Int) (b : Bool), p < (me : Int) → (ps n t p me)[i]? = some (q, b) → q < (me : Int) + i
  | 0, _, _, _, _, _, _, _, e => by simp [ps] at e
  | n + 1, (nl, k, kids), p, me, i, q, b, hp, e => by
    rw [ps_succ] at e
    split at e
    · simp at e
    · cases i with
      | zero =>
        simp at e
        omega
      | succ i =>
        rw [List.getElem?_cons_succ] at e
        have := seqK_gt n kids me i q b e
        omega
where
  seqK_gt (n : Nat) (kids : List (Tree n)) (me i : Nat) (q : Int) (b : Bool) (e : (seqK (fun c nx => ps n c (me : Int) nx) kids (me + 1))[i]? = some (q, b)) : q < (me : Int) + 1 + i := by
    have := seqK_par2 (fun c nx => ps n c (me : Int) nx) me (fun c nx i q b hn e => ps_par n c (me : Int) nx i q b (by omega) e) kids (me + 1) (by omega) i q b e
    omega
  seqK_par2 {T : Type} (f : T → Nat → List (Int × Bool)) (me : Nat) (h : ∀ c nx (i : Nat) q b, me < nx → (f c nx)[i]? = some (q, b) → q < (nx : Int) + i) :
    ∀ (cs : List T) (nx : Nat) (_ : me < nx) (i : Nat) (q : Int) (b : Bool), (seqK f cs nx)[i]? = some (q, b) → q < (nx : Int) + i
  | [], nx, _, i, q, b, e => by simp [seqK] at e
  | c :: cs, nx, hn, i, q, b, e => by
    simp only [seqK] at e
    by_cases hi : i < (f c nx).length
    · rw [List.getElem?_append_left hi] at e
      exact h c nx i q b hn e
    · rw [List.getElem?_append_right (by omega)] at e
      have := seqK_par2 f me h cs _ (by omega) _ _ _ e
      omega

theorem own_cell {B : Nat} {e : TypeId} {w : World} {v : Value} {n : Nat} {X : List Value} (h : w.ownsRow B e 1 v n X) {j : Nat} (hj : j < n) :
    ∃ g cap x, v = .slice (some ⟨g, 0, none⟩) n cap ∧ X[j]? = some x ∧ w.cell? ⟨g, j, none⟩ = some x ∧ g < w.heap.size := by
  obtain ⟨hl, ⟨_, h0⟩ | ⟨g, cap, cur, rfl, hB, hh, hnc, _, hcs, htake⟩⟩ := h
  · omega
  · have hjX : j < X.length := by omega
    refine ⟨g, cap, X[j], rfl, List.getElem?_eq_getElem hjX, ?_, (Array.getElem?_eq_some_iff.1 hh).1⟩
    rw [cell_of_row _ _ _ _ _ _ hh]
    have : (cur.toList.take (n * 1))[j]? = some X[j] := by rw [htake]; exact List.getElem?_eq_getElem hjX
    rw [List.getElem?_take, if_pos (by omega)] at this
    simpa using this

/-- What holds between two rounds of the law's loop. -/
structure Lv (w4 : World) (g m : Nat) (dep mx : Int) (X : List (Int × Bool)) (j : Nat) (wr : World) (ls : List Int) (ws : Option Nat) : Prop where
  sc : scan dep mx (X.take j) ([], none) = (ls, ws)
  len : ls.length = j
  cell : ∀ i, i < m → ∃ x, wr.cell? ⟨g, i, none⟩ = some (.int .i64 x) ∧ (i < j → x = ls.getD i 0)
  froz : ∀ i, wr.frozen? ⟨g, i, none⟩ = false
  bd : ∀ i, i < j → 0 ≤ ls.getD i 0 ∧ ls.getD i 0 ≤ (i : Int) + 1
  below : Below g w4 wr

theorem made_int (m i : Nat) (h : i < m) : (madeCells (Value.int .i64 0).cells (m * 1))[i]? = some (.int .i64 0) := by
  simp [madeCells, Value.cells, h, Nat.mod_one]

theorem Lv.start (w4 : World) (m : Nat) (dep mx : Int) (X : List (Int × Bool)) : Lv w4 w4.heap.size m dep mx X 0 (w4.alloc (.cells (madeCells (Value.int .i64 0).cells (m * 1)) 3)) [] none := by
  have hh := heap_alloc_new w4 (.cells (madeCells (Value.int .i64 0).cells (m * 1)) 3)
  refine ⟨by simp [scan], rfl, fun i hi => ⟨0, ?_, by omega⟩, fun i => ?_, fun i hi => by omega, (Below.refl _ _).alloc (Nat.le_refl _) _⟩
  · rw [cell_of_row _ _ _ _ _ _ hh, made_int _ _ hi]
  · show World.frozen? _ _ = false; unfold World.frozen?; rw [show (⟨w4.heap.size, i, none⟩ : Addr).block = w4.heap.size from rfl, hh]; simp

theorem lvl_bd {ls : List Int} {j : Nat} (hb : ∀ i, i < j → 0 ≤ ls.getD i 0 ∧ ls.getD i 0 ≤ (i : Int) + 1) (p : Int) (hp : p < (j : Int)) : 0 ≤ lvl ls p ∧ lvl ls p ≤ (j : Int) := by
  unfold lvl
  split
  · have := hb p.toNat (by omega)
    omega
  · omega

theorem Lv.step {w4 : World} {g m : Nat} {dep mx : Int} {X : List (Int × Bool)} {j : Nat} {wr : World} {ls : List Int} {ws : Option Nat} (h : Lv w4 g m dep mx X j wr ls ws) (hm : j < m) {p : Int} {c : Bool} (hX : X[j]? = some (p, c)) (hp : p < (j : Int)) :
    Lv w4 g m dep mx X (j + 1) (wr.setCell ⟨g, j, none⟩ (.int .i64 (lvl ls p + one c))) (ls ++ [lvl ls p + one c]) (if (ws.isNone && c && decide (mx < dep + (lvl ls p + one c))) = true then some j else ws) := by
  have hbl := lvl_bd h.bd p hp
  have hone : 0 ≤ one c ∧ one c ≤ 1 := by unfold one; split <;> omega
  refine ⟨?_, by simp [h.len], fun i hi => ?_, fun i => by rw [World.frozen?_setCell]; exact h.froz i, fun i hi => ?_, h.below.setCell (Nat.le_refl _) _⟩
  · have hj := (List.getElem?_eq_some_iff.1 hX).1
    rw [List.take_succ_eq_append_getElem hj, scan_append, h.sc, (List.getElem?_eq_some_iff.1 hX).2]
    simp only [scan, List.foldl_cons, List.foldl_nil, Deep.step, h.len]
  · obtain ⟨x, hx, hxe⟩ := h.cell i hi
    by_cases he : i = j
    · subst he
      refine ⟨_, World.cell?_setCell_same _ _ _ hx, fun _ => ?_⟩
      rw [List.getD_eq_getElem?_getD, List.getElem?_append_right (by rw [h.len]; omega), h.len]
      simp
    · refine ⟨x, by rw [World.cell?_setCell_other _ _ _ _ (by simp [*])]; exact hx, fun hij => ?_⟩
      rw [List.getD_eq_getElem?_getD, List.getElem?_append_left (by rw [h.len]; omega), ← List.getD_eq_getElem?_getD]
      exact hxe (by omega)
  · by_cases he : i = j
    · subst he
      have e : (ls ++ [lvl ls p + one c]).getD i 0 = lvl ls p + one c := by
        rw [List.getD_eq_getElem?_getD, List.getElem?_append_right (by rw [h.len]; omega), h.len]
        simp
      rw [e]
      omega
    · have e : (ls ++ [lvl ls p + one c]).getD i 0 = ls.getD i 0 := by
        rw [List.getD_eq_getElem?_getD, List.getElem?_append_left (by rw [h.len]; omega), ← List.getD_eq_getElem?_getD]
      rw [e]
      exact h.bd i (by omega)

/-- The loop's end. -/
theorem Lv.last {w4 : World} {g m : Nat} {dep mx : Int} {n : Nat} {t : Tree n} {wr : World} {ls : List Int} {ws : Option Nat} {j : Nat} (h : Lv w4 g m dep mx (ps n t (-1) 0) j wr ls ws) (hj : j = (ps n t (-1) 0).length) : ws = td mx n t dep 0 := by
  have h1 := h.sc
  rw [hj, List.take_length] at h1
  obtain ⟨ls', _, h2⟩ := scan_tree dep mx n t (-1) [] none (by simp)
  simp only [List.length_nil] at h2
  rw [h1] at h2
  have h3 := congrArg Prod.snd h2
  have e : lvl [] (-1) = 0 := by simp [lvl]
  rw [e, Int.add_zero] at h3
  exact h3
end Go.Proofs.Qxb6617969a.Deep
