import Derived.Test.Qxb6617969aCopy
import Derived.BigQuiet
import Derived.Deep.QuietTactic
import Derived.Deep.RegionWith
import Derived.Deep.DeepCutAuto
import Derived.WalkSpells
import Derived.WalkLawsBesides
namespace Go.Proofs.Qxb6617969a.Base
open Go.RowKit

def isW (c : Int) : Bool := (c == 32) || (c == 9)
def isB (c : Int) : Bool := (c == 10) || (c == 13)
def endsB (l : List Int) (k : Nat) : Bool := decide (l.length ≤ k) || isB (byt l k)

theorem isWhite_any (c : Int) (w : World) : Calls Try.prog 28 #[.int .u8 c] w fun e w' => e = .returned (.bool (isW c)) ∧ w' = w := by
  cases h1 : (c == 32)
  · have e : isW c = (c == 9) := by simp [isW, h1]
    rw [e]
    clear e
    go_enter Try.func28, Try.ntmps28
    go_wp2
    go_ret
    exact ⟨rfl, rfl⟩
  · have e : isW c = true := by simp [isW, h1]
    rw [e]
    clear e
    go_enter Try.func28, Try.ntmps28
    go_wp2
    go_ret
    exact ⟨rfl, rfl⟩

theorem zzIsWhite_any (c : Int) (w : World) : Calls Try.prog 21 #[.int .u8 c] w fun e w' => e = .returned (.bool (isW c)) ∧ w' = w := by
  cases h1 : (c == 32)
  · have e : isW c = (c == 9) := by simp [isW, h1]
    rw [e]
    clear e
    go_enter Try.func21, Try.ntmps21
    go_wp2
    go_ret
    exact ⟨rfl, rfl⟩
  · have e : isW c = true := by simp [isW, h1]
    rw [e]
    clear e
    go_enter Try.func21, Try.ntmps21
    go_wp2
    go_ret
    exact ⟨rfl, rfl⟩

theorem zzIsBreak_any (c : Int) (w : World) : Calls Try.prog 15 #[.int .u8 c] w fun e w' => e = .returned (.bool (isB c)) ∧ w' = w := by
  cases h1 : (c == 10)
  · have e : isB c = (c == 13) := by simp [isB, h1]
    rw [e]
    clear e
    go_enter Try.func15, Try.ntmps15
    go_wp2
    go_ret
    exact ⟨rfl, rfl⟩
  · have e : isB c = true := by simp [isB, h1]
    rw [e]
    clear e
    go_enter Try.func15, Try.ntmps15
    go_wp2
    go_ret
    exact ⟨rfl, rfl⟩

theorem brk_pos (l : List Int) (k : Nat) : decide (0 < brk l k) = isB (byt l k) := by
  unfold brk isB
  by_cases h1 : byt l k = 10
  · simp [h1]
  · by_cases h2 : byt l k = 13
    · simp [h2]; split <;> omega
    · simp [h1, h2]

/-- The parser in block pb: the text v, the place p, the line's start ls. -/
structure Par (w : World) (pb : Nat) (v : Value) (p : Nat) (ls : Int) : Prop where
  c0 : w.cell? ⟨pb, 0, none⟩ = some v
  c1 : w.cell? ⟨pb, 1, none⟩ = some (.int .i64 p)
  c2 : w.cell? ⟨pb, 2, none⟩ = some (.int .i64 ls)
  f1 : w.frozen? ⟨pb, 1, none⟩ = false
  f2 : w.frozen? ⟨pb, 2, none⟩ = false

theorem Par.set1 {w : World} {pb : Nat} {v : Value} {p : Nat} {ls : Int} (h : Par w pb v p ls) (q : Nat) : Par (w.setCell ⟨pb, 1, none⟩ (.int .i64 q)) pb v q ls :=
  ⟨(World.cell?_setCell_other _ _ _ _ (by simp)).trans h.c0, World.cell?_setCell_same _ _ _ h.c1, (World.cell?_setCell_other _ _ _ _ (by simp)).trans h.c2, by simp [h.f1], by simp [h.f2]⟩
theorem Par.set2 {w : World} {pb : Nat} {v : Value} {p : Nat} {ls : Int} (h : Par w pb v p ls) (q : Int) : Par (w.setCell ⟨pb, 2, none⟩ (.int .i64 q)) pb v p q :=
  ⟨(World.cell?_setCell_other _ _ _ _ (by simp)).trans h.c0, (World.cell?_setCell_other _ _ _ _ (by simp)).trans h.c1, World.cell?_setCell_same _ _ _ h.c2, by simp [h.f1], by simp [h.f2]⟩
theorem Par.drewN {w : World} {pb : Nat} {v : Value} {p : Nat} {ls : Int} (h : Par w pb v p ls) (n : Nat) : Par (w.drewN n) pb v p ls := ⟨h.c0, h.c1, h.c2, h.f1, h.f2⟩
theorem Par.drew {w : World} {pb : Nat} {v : Value} {p : Nat} {ls : Int} (h : Par w pb v p ls) : Par w.drew pb v p ls := ⟨h.c0, h.c1, h.c2, h.f1, h.f2⟩

/-- At most block pb has turned. -/
structure Onto (pb : Nat) (w w' : World) : Prop where
  os : w'.os = w.os
  tape : w'.tape = w.tape
  output : w'.output = w.output
  size : w'.heap.size = w.heap.size
  block : ∀ k, k ≠ pb → w'.heap[k]? = w.heap[k]?

theorem Onto.refl (pb : Nat) (w : World) : Onto pb w w := ⟨rfl, rfl, rfl, rfl, fun _ _ => rfl⟩
theorem Onto.trans {pb : Nat} {a b c : World} (h : Onto pb a b) (k : Onto pb b c) : Onto pb a c :=
  ⟨k.os.trans h.os, k.tape.trans h.tape, k.output.trans h.output, k.size.trans h.size, fun i hi => (k.block i hi).trans (h.block i hi)⟩
theorem Onto.drewN {pb : Nat} {a b : World} (h : Onto pb a b) (n : Nat) : Onto pb a (b.drewN n) := h.trans ⟨rfl, rfl, rfl, rfl, fun _ _ => rfl⟩
theorem Onto.drew {pb : Nat} {a b : World} (h : Onto pb a b) : Onto pb a b.drew := h.trans ⟨rfl, rfl, rfl, rfl, fun _ _ => rfl⟩
theorem Onto.setCell {pb : Nat} {a b : World} (h : Onto pb a b) (o : Nat) (u : Value) : Onto pb a (b.setCell ⟨pb, o, none⟩ u) :=
  h.trans ⟨rfl, rfl, rfl, by simp [World.setCell], fun k hk => Below.heap_setCell _ _ _ _ hk⟩
theorem Onto.below {pb B : Nat} {a b c : World} (h : Onto pb b c) (hB : Below B a b) (hp : B ≤ pb) : Below B a c :=
  hB.trans ⟨h.os, h.tape, h.output, by rw [h.size]; exact Nat.le_refl _, fun k hk => h.block k (by omega)⟩

/-- The text v lies outside block pb. -/
def Apart (v : Value) (pb : Nat) : Prop := ∀ a len cap, v = .slice (some a) len cap → a.block ≠ pb
theorem Txt.onto {w w' : World} {v : Value} {l : List Int} {pb : Nat} (h : Txt w v l) (ho : Onto pb w w') (ha : Apart v pb) : Txt w' v l := by
  rcases h with h | ⟨b, q, cap, rfl, hc⟩
  · exact .inl h
  · exact .inr ⟨b, q, cap, rfl, fun i hi => (World.cell?_of_block (ho.block b (ha _ _ _ rfl))).trans (hc i hi)⟩

theorem Txt.form {w : World} {v : Value} {l : List Int} (h : Txt w v l) : ∃ a cap, v = .slice a l.length cap := by
  rcases h with ⟨rfl, rfl⟩ | ⟨b, q, cap, rfl, _⟩
  · exact ⟨_, _, rfl⟩
  · exact ⟨_, _, rfl⟩

set_option maxHeartbeats 400000 in
theorem eof_any (pb : Nat) (v : Value) (l : List Int) (p : Nat) (ls : Int) (w : World) (hp : Par w pb v p ls) (ht : Txt w v l) :
    Calls Try.prog 27 #[.pointer (some ⟨pb, 0, none⟩)] w fun e w' => e = .returned (.bool (decide (l.length ≤ p))) ∧ ∃ n, w' = w.drewN n := by
  obtain ⟨a, cap, rfl⟩ := ht.form
  have c0 := hp.c0
  have c1 := hp.c1
  clear hp ht
  go_enter Try.func27, Try.ntmps27
  go_wp2
  go_quiet (fail)
  go_wp2
  go_ret
  exact ⟨rfl, _, rfl⟩

set_option maxHeartbeats 400000 in
theorem endsLine_any (pb : Nat) (v : Value) (l : List Int) (off : Nat) (w : World) (hl : l.length ≤ 1048576) (hp : w.cell? ⟨pb, 0, none⟩ = some v) (ht : Txt w v l) :
    Calls Try.prog 29 #[.pointer (some ⟨pb, 0, none⟩), .int .i64 off] w fun e w' => e = .returned (.bool (endsB l off)) ∧ w' = w := by
  have hA := breakAt_any pb v l off w (by omega) hl hp ht
  rw [Int.toNat_natCast] at hA
  obtain ⟨a, cap, rfl⟩ := ht.form
  clear ht
  by_cases h : l.length ≤ off
  · have e : endsB l off = true := by simp [endsB, h]
    rw [e]
    clear e hA
    go_enter Try.func29, Try.ntmps29
    go_wp2_with fail
    go_ret
    exact ⟨rfl, rfl⟩
  · have e : endsB l off = decide (0 < brk l off) := by rw [brk_pos]; simp [endsB, h]
    rw [e]
    have HA := hid hA
    clear e hA
    generalize brk l off = z at HA
    go_enter Try.func29, Try.ntmps29
    go_wp2_with fail
    refine HA.out.mono ?_
    rintro e w' ⟨rfl, rfl⟩
    go_wp2_with fail
    go_ret
    exact ⟨rfl, rfl⟩

set_option maxHeartbeats 400000 in
theorem lineBreak_any (pb : Nat) (v : Value) (l : List Int) (p : Nat) (ls : Int) (w : World) (hl : l.length ≤ 1048576) (hpl : p ≤ l.length) (hp : Par w pb v p ls) (ht : Txt w v l) :
    Calls Try.prog 30 #[.pointer (some ⟨pb, 0, none⟩)] w fun e w' => e = .returned (.tuple #[]) ∧ ∃ n : Nat, (n : Int) = p + brk l p ∧ Par w' pb v n n ∧ Onto pb w w' := by
  have hb := brk_range l p
  have G := hid fun W (h0 : W.cell? ⟨pb, 0, none⟩ = some v) (hT : Txt W v l) => breakAt_any pb v l p W (by omega) hl h0 hT
  rw [Int.toNat_natCast] at G
  obtain ⟨z, hz⟩ : ∃ z, z = brk l p := ⟨_, rfl⟩
  rw [← hz] at G hb
  have c0 := hp.c0
  have c1 := hp.c1
  have f1 := hp.f1
  have f2 := hp.f2
  have c2 := hp.c2
  have HZ := hid hz
  clear hz hp
  go_enter Try.func30, Try.ntmps30
  go_wp2_with fail
  go_region_with (go_at_call 22; refine (G.out _ (by first | exact c0 | simpa using c0) (by first | exact ht | exact ht.drewN 1)).mono ?_; rintro e w' ⟨rfl, rfl⟩)
  all_goals (try go_wp2)
  all_goals go_end0
  all_goals
    refine ⟨rfl, (p + z).toNat, by rw [← HZ.out]; omega, ?_, (((Onto.refl pb w).setCell 1 _).setCell 2 _).drew⟩
    have e : (((p + z).toNat : Nat) : Int) = p + z := by omega
    have hP : Par w pb v p ls := ⟨c0, c1, c2, f1, f2⟩
    have h2 := (hP.set1 (p + z).toNat).set2 (p + z).toNat
    rw [e] at h2
    rw [e]
    exact h2.drew
end Go.Proofs.Qxb6617969a.Base
