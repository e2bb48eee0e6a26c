import Derived.Test.Qxb6617969aBlank
import Derived.Maps.AppendAt
namespace Go.Proofs.Qxb6617969a.Base
open Go.RowKit

/-- Two slices lie in two rows. -/
def Dis (u v : Value) : Prop := ∀ k, u.ownBlock = some k → v.ownBlock ≠ some k

/-- Three slices of ints of the call's own, in three rows from block B on. -/
structure R3 (B : Nat) (w : World) (u v z : Value) (X Y Z : List Value) : Prop where
  o1 : w.ownsRow B 3 1 u X.length X
  o2 : w.ownsRow B 3 1 v Y.length Y
  o3 : w.ownsRow B 3 1 z Z.length Z
  d12 : Dis u v
  d13 : Dis u z
  d23 : Dis v z

theorem Dis.symm {u v : Value} (h : Dis u v) : Dis v u := fun k hk hu => h k hu hk

theorem R3.rot {B : Nat} {w : World} {u v z : Value} {X Y Z : List Value} (h : R3 B w u v z X Y Z) : R3 B w v z u Y Z X :=
  ⟨h.o2, h.o3, h.o1, h.d23, h.d12.symm, h.d13.symm⟩

theorem R3.nil (B : Nat) (w : World) : R3 B w (.slice none 0 0) (.slice none 0 0) (.slice none 0 0) [] [] [] :=
  ⟨World.ownsRow_nil _ _ _ _, World.ownsRow_nil _ _ _ _, World.ownsRow_nil _ _ _ _, fun k h => by simp [Value.ownBlock] at h, fun k h => by simp [Value.ownBlock] at h, fun k h => by simp [Value.ownBlock] at h⟩

theorem R3.drewN {B : Nat} {w : World} {u v z : Value} {X Y Z : List Value} (h : R3 B w u v z X Y Z) (n : Nat) : R3 B (w.drewN n) u v z X Y Z := ⟨h.o1, h.o2, h.o3, h.d12, h.d13, h.d23⟩

theorem own_keep {B : Nat} {w w1 : World} {u v : Value} {Y : List Value} {O : Obj} (ho : w.ownsRow B 3 1 v Y.length Y) (hd : Dis u v) (hg : (w.alloc O).grownBy w1 u.ownBlock) : w1.ownsRow B 3 1 v Y.length Y := by
  refine (ho.alloc O).kept hg ?_
  cases hv : v.ownBlock with
  | none => exact .inl rfl
  | some k => exact .inr (fun e => hd k e.symm hv)

theorem dis_keep {B : Nat} {w : World} {u u' v : Value} {Y : List Value} {O : Obj} (ho : w.ownsRow B 3 1 v Y.length Y) (hd : Dis u v) (hat : u'.ownBlock = u.ownBlock ∨ u'.ownBlock = some (w.alloc O).heap.size) : Dis u' v := by
  intro k hk hv
  rcases hat with h | h
  · exact hd k (h ▸ hk) hv
  · have := (ho.lt k hv).2
    rw [h] at hk
    simp at hk
    omega

/-- What an append to the first of them leaves. -/
theorem R3.app {B : Nat} {w w1 : World} {u u' v z : Value} {X Y Z : List Value} {x : Value} {O : Obj} (h : R3 B w u v z X Y Z)
    (ho : w1.ownsRow B 3 1 u' (X.length + 1) (X ++ [x])) (hg : (w.alloc O).grownBy w1 u.ownBlock) (hat : u'.ownBlock = u.ownBlock ∨ u'.ownBlock = some (w.alloc O).heap.size) :
    R3 B w1 u' v z (X ++ [x]) Y Z :=
  ⟨by simpa using ho, own_keep h.o2 h.d12 hg, own_keep h.o3 h.d13 hg, dis_keep h.o2 h.d12 hat, dis_keep h.o3 h.d13 hat, h.d23⟩

theorem below_app {B B' : Nat} {w0 w w1 : World} {u : Value} {X : List Value} {O : Obj} (hb : Below B' w0 w) (ho : w.ownsRow B 3 1 u X.length X) (hg : (w.alloc O).grownBy w1 u.ownBlock) (hB : B' ≤ B) (hs : B ≤ w.heap.size) : Below B' w0 w1 :=
  (hb.alloc (by omega) O).grown hg (by simp; omega) (fun k hk => by have := (ho.lt k hk).1; omega)

/-- The form of an owned slice, and its cells. -/
theorem own_form {B : Nat} {w : World} {u : Value} {X : List Value} (h : w.ownsRow B 3 1 u X.length X) :
    ∃ a cap, u = .slice a X.length cap ∧ ∀ i (hi : i < X.length), ∃ g, a = some ⟨g, 0, none⟩ ∧ w.cell? ⟨g, i, none⟩ = some (X[i]'hi) := by
  rcases h.2 with ⟨rfl, h0⟩ | ⟨g, cap, cur, rfl, _, hh, h1, h2, h3, h4⟩
  · exact ⟨none, 0, by rw [h0], fun i hi => by omega⟩
  · refine ⟨_, cap, rfl, fun i hi => ⟨g, rfl, ?_⟩⟩
    have hc := World.ownsRow.cells h (g := g) rfl i (X[i]'hi) (List.getElem?_eq_getElem hi)
    rwa [Addr.add_lit, Nat.zero_add] at hc

theorem info3 : (Try.prog.info? 3).map (fun i => (i.zero, i.size, i.bytes)) = some (some (.int .i64 0), 1, 8) := by kernel_rfl

theorem nxt2_lf (l : List Int) (e : Nat) (h : byt l e = 10) : (nxt l e == e + 2) = false := by
  unfold nxt brk; rw [h]; simp
theorem nxt2_cr (l : List Int) (e : Nat) (h : byt l e = 13) : (nxt l e == e + 2) = (byt l (e + 1) == 10) := by
  unfold nxt brk
  rw [h]
  by_cases hd : byt l (e + 1) = 10
  · simp [hd]
  · have h1 : (byt l (e + 1) == 10) = false := by simpa using hd
    rw [h1]; simp [hd]

def stV (t : Ln) : Value := .int .i64 t.st
def enV (t : Ln) : Value := .int .i64 t.en
def nxV (t : Ln) : Value := .int .i64 t.nx

theorem own_formL {B : Nat} {w : World} {u : Value} (L : List Ln) (f : Ln → Value) (h : w.ownsRow B 3 1 u (L.map f).length (L.map f)) :
    ∃ a cap, u = .slice a L.length cap ∧ ∀ i (hi : i < L.length), ∃ g, a = some ⟨g, 0, none⟩ ∧ w.cell? ⟨g, i, none⟩ = some (f (L[i]'hi)) := by
  obtain ⟨a, cap, e, hc⟩ := own_form h
  refine ⟨a, cap, by rw [e, List.length_map], fun i hi => ?_⟩
  obtain ⟨g, e1, e2⟩ := hc i (by simpa using hi)
  exact ⟨g, e1, by rw [e2]; simp⟩

/-- A part of the text, as a slice. -/
theorem Txt.part {w : World} {b o len cap : Nat} {l : List Int} (hc : ∀ i, i < l.length → w.cell? ⟨b, o + i, none⟩ = some (.int .u8 (byt l i))) (s e : Nat) (hse : s ≤ e) (hel : e ≤ l.length) (hlen : len = e - s) :
    Txt w (.slice (some ⟨b, o + s, none⟩) len cap) ((l.take e).drop s) := by
  have hl : ((l.take e).drop s).length = len := by simp; omega
  refine .inr ⟨b, o + s, cap, by rw [hl], ?_⟩
  intro i hi
  rw [hl] at hi
  rw [byt_drop, byt_take l _ _ (by omega), Nat.add_assoc]
  exact hc (s + i) (by omega)
theorem lns_len (l : List Int) : ∀ f s, (lns l f s).length ≤ f
  | 0, s => by simp [lns]
  | f + 1, s => by
    have := lns_len l f (nxt l (eEnd l s))
    unfold lns
    split
    · simp
    · split
      · simp
      · simp; exact this
theorem part_len (l : List Int) (s e : Nat) (hel : e ≤ l.length) : ((l.take e).drop s).length = e - s := by simp; omega
end Go.Proofs.Qxb6617969a.Base
