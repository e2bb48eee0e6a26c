import Derived.Test.Qxb6617992aRows
import Derived.WalkKit
import Derived.ProofKit
import Derived.Below
import Derived.Maps.OwnSet
import Derived.WalkSpells
import Derived.WalkLawsBesides
namespace Go.Proofs.Qxb6617992a.Keep
open Go.RowKit Go.Maps

theorem hid {p : Prop} (h : p) : Hid p := h

theorem law : Keyed Try.prog 9 := string_keyed Try.underlying9
theorem zero2 (w : World) : (zeroValue 2).run Try.prog w = .ok (.int .i64 0) w := by kernel_rfl

/-- A key, as its bytes. -/
abbrev Key := List UInt8
def key (s : ByteArray) : Key := s.data.toList

/-- What a map of lengths holds, key by key. -/
abbrev Tab := Key → Option Int
def upd (M : Tab) (k : Key) (v : Int) : Tab := fun j => if j = k then some v else M j
/-- What 'keepLeast' leaves. -/
def kl (M : Tab) (k : Key) (v : Int) : Tab := match M k with
  | none => upd M k v
  | some u => if v < u then upd M k v else M

/-- Block b is a map of at most n entries, sz of them, that holds M. -/
def IMap (w : World) (b n : Nat) (M : Tab) (sz : Nat) : Prop :=
  ∃ D : DataW Unit, w.ownsMap Try.prog 9 (plainElem Try.prog 2) b n D ∧ (∀ k : Key, Maps.has D (.string k) = (M k).isSome) ∧
    (∀ k : Key, D.atKey (.string k) (.lit (.int .i64 0)) = .lit (.int .i64 ((M k).getD 0))) ∧ Maps.size D = sz

theorem IMap.made (w : World) : IMap (w.alloc (.map #[] 0)) w.heap.size 0 (fun _ => none) 0 :=
  ⟨.map [], World.ownsMap_made _ _ _ _, fun k => by simp [Maps.has], fun k => by simp [DataW.atKey], rfl⟩

theorem IMap.kept {w w' : World} {b n sz : Nat} {M : Tab} {row : Option Nat} (h : IMap w b n M sz) (hg : w.grownBy w' row) (hne : some b ≠ row) : IMap w' b n M sz := by
  obtain ⟨D, h1, h2⟩ := h
  exact ⟨D, h1.kept hg hne, h2⟩
theorem IMap.alloc {w : World} {b n sz : Nat} {M : Tab} (h : IMap w b n M sz) (o : Obj) : IMap (w.alloc o) b n M sz := by
  obtain ⟨D, h1, h2⟩ := h
  exact ⟨D, h1.alloc o, h2⟩
theorem IMap.drewN {w : World} {b n sz : Nat} {M : Tab} (h : IMap w b n M sz) (m : Nat) : IMap (w.drewN m) b n M sz := h
theorem IMap.drew {w : World} {b n sz : Nat} {M : Tab} (h : IMap w b n M sz) : IMap w.drew b n M sz := h
theorem IMap.lt {w : World} {b n sz : Nat} {M : Tab} (h : IMap w b n M sz) : b < w.heap.size := by
  obtain ⟨D, h1, _⟩ := h
  exact h1.lt
theorem IMap.mono {w : World} {b n m sz : Nat} {M : Tab} (h : IMap w b n M sz) (hm : n ≤ m) : IMap w b m M sz := by
  obtain ⟨D, h1, h2⟩ := h
  exact ⟨D, h1.mono hm, h2⟩
theorem IMap.size_le {w : World} {b n sz : Nat} {M : Tab} (h : IMap w b n M sz) : sz ≤ n := by
  obtain ⟨D, h1, _, _, rfl⟩ := h
  exact h1.size_le

theorem key_of {s : ByteArray} (hs : s.size ≤ maxLen) : keyOf Try.prog 9 (.string s) = some (.string (key s)) := WideMaps.keyOf_string_mk Try.underlying9 hs

/-- 'v, ok := m[s]'. -/
theorem IMap.look {w : World} {b n sz : Nat} {M : Tab} (h : IMap w b n M sz) {s : ByteArray} (hs : s.size ≤ maxLen) :
    (Instr.lookup 27 (.map (some b)) (.string s) true).run Try.prog w = .ok (.tuple #[.int .i64 ((M (key s)).getD 0), .bool (M (key s)).isSome]) w := by
  obtain ⟨D, h1, h2, h3, _⟩ := h
  obtain ⟨v, ps, hrun, hR⟩ := h1.look_ok law Try.underlying27 (zero2 w) (plainElem_int Try.underlying2 (by decide)) (key_of hs)
  obtain ⟨c, rfl, hc, _⟩ := plainElem_int_inv Try.underlying2 hR
  rw [h3] at hc
  simp only [Prod.mk.injEq, DataW.lit.injEq, Lit.int.injEq, true_and] at hc
  rw [hrun, h2, hc.1]

theorem IMap.len {w : World} {b n sz : Nat} {M : Tab} (h : IMap w b n M sz) (ty : TypeId) :
    (Builtin.len_ #[27] ty #[.map (some b)]).run Try.prog w = .ok (.int .i64 sz) w := by
  obtain ⟨D, h1, _, _, rfl⟩ := h
  exact h1.len Try.underlying27 ty

/-- 'm[s] = v'. -/
theorem IMap.store {w : World} {b n sz : Nat} {M : Tab} (h : IMap w b n M sz) (hn : n < maxLen) {s : ByteArray} (hs : s.size ≤ maxLen) {v : Int} (hv : (Lit.int .i64 v).wf = true) :
    ∃ w', (Instr.mapUpdate 27 (.map (some b)) (.string s) (.int .i64 v)).run Try.prog w = .ok () w' ∧
      IMap w' b (n + 1) (upd M (key s) v) (if (M (key s)).isSome then sz else sz + 1) ∧ w.grownBy w' (some b) := by
  obtain ⟨D, h1, h2, h3, rfl⟩ := h
  obtain ⟨w', hrun, hown, ht⟩ := h1.store law Try.underlying27 hn (key_of hs) (plainElem_int (H := Unit) Try.underlying2 hv)
  refine ⟨w', hrun, ⟨_, hown, ?_, ?_, ?_⟩, ht.grown⟩
  · intro k
    unfold upd
    split
    · rename_i e; subst e
      rw [has_put_same (k := .string (key s)) h1.isMap trivial]; rfl
    · rename_i e
      rw [has_put_other (by simpa using e), h2]
  · intro k
    unfold upd
    split
    · rename_i e; subst e
      rw [atKey_put_same (k := .string (key s)) h1.isMap trivial]; rfl
    · rename_i e
      rw [atKey_put_other (by simpa using e), h3]
  · rw [size_put (h1.tidy law), h2]
end Go.Proofs.Qxb6617992a.Keep
