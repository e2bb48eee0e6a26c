import Derived.Test.Qxb6617969aTree
import Derived.ChangeArms
import Derived.DataReads
import Derived.SizedLaws
namespace Go.Proofs.Qxb6617969a.Deep
open Go.RowKit

theorem cells30 : Try.prog.cellsOf 30 = 3 := by kernel_rfl
theorem cells28 : Try.prog.cellsOf 28 = 1 := by kernel_rfl
theorem cells5 : Try.prog.cellsOf 5 = 1 := by kernel_rfl
theorem cells4 : Try.prog.cellsOf 4 = 1 := by kernel_rfl
theorem bytes30 : Try.prog.bytesOf 30 = 32 := by kernel_rfl

theorem spot_none {w : World} {a : Addr} {v : Value} (h : w.cell? a = some v) : ∃ b o, a = ⟨b, o, none⟩ := by
  obtain ⟨b, o, s⟩ := a
  cases s with
  | none => exact ⟨b, o, rfl⟩
  | some s =>
    unfold World.cell? at h
    simp at h
    split at h <;> simp at h

theorem weights_all {H : Type} {P : Program} {e : TypeId} {y : Nat} {d : DataW H} (hy : y ∈ d.weights P e) : ∀ (l : List (DataW H)), d ∈ l → y ∈ DataW.weightsAll P e l
  | [], h => by simp at h
  | x :: l, h => by
    simp only [DataW.weightsAll, List.mem_append]
    rcases List.mem_cons.1 h with rfl | h
    · exact .inl hy
    · exact .inr (weights_all hy l h)

theorem pick_list {T : Type} (Q : Nat → T → Prop) : ∀ (len : Nat), (∀ i, i < len → ∃ t, Q i t) → ∃ l : List T, l.length = len ∧ ∀ i (h : i < l.length), Q i (l[i]'h)
  | 0, _ => ⟨[], rfl, fun i h => by simp at h⟩
  | len + 1, h => by
    obtain ⟨l, hl, hq⟩ := pick_list Q len (fun i hi => h i (by omega))
    obtain ⟨t, ht⟩ := h len (by omega)
    refine ⟨l ++ [t], by simp [hl], fun i hi => ?_⟩
    by_cases hil : i < l.length
    · rw [List.getElem_append_left hil]; exact hq i hil
    · have : i = l.length := by simp at hi; omega
      subst this
      simp only [List.getElem_concat_length]
      rw [hl]; exact ht

theorem open_tree {H : Type} {enc : TypeId × Value → H} {w : World} : ∀ (m fuel : Nat) (cs : List Value) (x : DataW H × List MemPlace), fuel ≤ 2 * m → DataW.trod enc Try.prog w 0 (fun _ => true) true fuel 30 cs = some x →
    (∀ y ∈ x.1.weights Try.prog 30, y ≤ reachBytes) → ∃ t, TAt w m t cs
  | 0, fuel, cs, x, hf, h, _ => by
    obtain rfl : fuel = 0 := by omega
    simp [DataW.trod] at h
  | m + 1, fuel, cs, x, hf, h, hw => by
    obtain ⟨xs, f, rfl, rfl, hl, hlen, hfs⟩ := DataW.trod_struct Try.underlying30 h
    match xs, hlen with
    | [y0, y1, y2], _ =>
    rw [cells30] at hl
    match cs, hl with
    | [c0, c1, c2], _ =>
    have h0 := hfs 0 _ rfl
    have h1 := hfs 1 _ rfl
    have h2 := hfs 2 _ rfl
    simp [cells28, cells4, cells5] at h0 h1 h2
    obtain ⟨nl, e0, _⟩ := DataW.trod_bool Try.underlying4 h0
    obtain ⟨k, e1, _⟩ := DataW.trod_int Try.underlying5 h1
    simp at e0 e1
    subst e0 e1
    rcases DataW.trod_slice Try.underlying28 h2 with ⟨e2, _⟩ | ⟨a, len, cap, elems, rest, f', rfl, e2, rfl, _, hlc, hm, hel, hev, _⟩
    · simp at e2
      subst e2
      exact ⟨(nl, k, []), none, 0, rfl, by simp, fun i h => by simp at h⟩
    · simp at e2
      subst e2
      rw [cells30] at hev
      simp only [List.map_cons, List.map_nil, DataW.weights, Try.underlying30, Try.underlying28, DataW.weightsEach, bytes30] at hw
      have hbytes : len * 32 ≤ 140737488351232 := by
        have := hw ((elems.length + rest.length) * 32) (by simp)
        have hrb : reachBytes = 140737488351232 := rfl
        rw [hrb] at this
        omega
      have hkid : ∀ i, i < len → ∃ t : Tree m, ∃ b o c0 c1 c2, some a = some ⟨b, o, none⟩ ∧ w.cell? ⟨b, o + i * 3, none⟩ = some c0 ∧ w.cell? ⟨b, o + i * 3 + 1, none⟩ = some c1 ∧ w.cell? ⟨b, o + i * 3 + 2, none⟩ = some c2 ∧ TAt w m t [c0, c1, c2] := by
        intro i hi
        have h4 := hev 0 (by omega)
        rw [List.getElem?_eq_getElem (by omega)] at h4
        obtain ⟨cs4, hcs4, _⟩ := Option.bind_eq_some_iff.1 h4
        obtain ⟨_, hl4, hc4⟩ := World.cells?_some hcs4
        have k4 := hc4 0 (by omega)
        rw [Nat.zero_mul, Addr.add_zero', Addr.add_zero', List.getElem?_eq_getElem (by omega)] at k4
        obtain ⟨b', o, rfl⟩ := spot_none k4
        have h3 := hev i hi
        rw [List.getElem?_eq_getElem (by omega)] at h3
        obtain ⟨cs', hcs, ht⟩ := Option.bind_eq_some_iff.1 h3
        obtain ⟨_, hl3, hc⟩ := World.cells?_some hcs
        match cs', hl3 with
        | [c0, c1, c2], _ =>
        have k0 := hc 0 (by omega)
        have k1 := hc 1 (by omega)
        have k2 := hc 2 (by omega)
        simp only [Addr.add_lit] at k0 k1 k2
        obtain ⟨t, ht⟩ := open_tree m f' [c0, c1, c2] elems[i] (by omega) ht (fun y hy => hw y (by
          have hmem := weights_all hy (elems.map (·.1)) (List.mem_map.2 ⟨elems[i], List.getElem_mem _, rfl⟩)
          simp [hmem]))
        exact ⟨t, b', o, c0, c1, c2, rfl, by simpa using k0, by simpa using k1, by simpa using k2, ht⟩
      obtain ⟨kids, hkl, hq⟩ := pick_list _ len hkid
      exact ⟨(nl, k, kids), some a, cap, by rw [hkl], by rw [hkl]; exact hbytes, hq⟩
end Go.Proofs.Qxb6617969a.Deep
