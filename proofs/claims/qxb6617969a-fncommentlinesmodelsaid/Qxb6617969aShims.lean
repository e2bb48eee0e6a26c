import Derived.Test.Qxb6617969aIdemLaw
namespace Go.Proofs.Qxb6617969a.Base
open Go.RowKit

theorem zzComment_any (pb : Nat) (v : Value) (l : List Int) (p : Nat) (ls : Int) (w : World) (hl : l.length ≤ 1048576) (hp : Par w pb v p ls) (ht : Txt w v l) (ha : Apart v pb) (R : Nat × Int) (hR : cl l (l.length + 1) p ls = R) :
    Calls Try.prog 17 #[.pointer (some ⟨pb, 0, none⟩)] w fun e w' => e = .returned (.tuple #[]) ∧ Par w' pb v R.1 R.2 ∧ Onto pb w w' := by
  have G := hid (comment_any pb v l p ls w hl hp ht ha R hR)
  clear hp ht hR
  go_enter Try.func17, Try.ntmps17
  go_wp2_with fail
  refine G.out.mono ?_
  rintro e w' ⟨rfl, h1, h2⟩
  have H1 := hid h1; have H2 := hid h2
  clear h1 h2 G
  go_wp2_with fail
  go_end0
  exact ⟨rfl, H1.out, H2.out⟩

theorem zzPos_any (pb : Nat) (v : Value) (p : Nat) (ls : Int) (w : World) (hp : Par w pb v p ls) :
    Calls Try.prog 18 #[.pointer (some ⟨pb, 0, none⟩)] w fun e w' => e = .returned (.int .i64 p) ∧ w' = w := by
  have c1 := hp.c1
  clear hp
  go_enter Try.func18, Try.ntmps18
  go_wp2
  go_ret
  exact ⟨rfl, rfl⟩

theorem zzLine_any (pb : Nat) (v : Value) (p : Nat) (ls : Int) (w : World) (hp : Par w pb v p ls) :
    Calls Try.prog 19 #[.pointer (some ⟨pb, 0, none⟩)] w fun e w' => e = .returned (.int .i64 ls) ∧ w' = w := by
  have c2 := hp.c2
  clear hp
  go_enter Try.func19, Try.ntmps19
  go_wp2
  go_ret
  exact ⟨rfl, rfl⟩

/-- The maker of the parser, by what is behind it. -/
theorem newPar_any (a : Option Addr) (len cap : Nat) (pos : Nat) (ls d md : Int) (w : World) :
    Calls Try.prog 10 #[.slice a len cap, .int .i64 pos, .int .i64 ls, .int .i64 d, .int .i64 md] w fun e w' =>
      e = .returned (.pointer (some ⟨w.heap.size, 0, none⟩)) ∧ Par w' w.heap.size (.slice a len cap) pos ls ∧ Below w.heap.size w w' ∧ w'.heap.size = w.heap.size + 1 := by
  refine (newParser_any a len cap pos ls d md w).mono ?_
  rintro e w' ⟨rfl, rfl⟩
  refine ⟨rfl, ⟨by simp, by simp, by simp, ?_, ?_⟩, (Below.refl _ _).alloc (Nat.le_refl _) _, by simp⟩
  · simp only [World.frozen?, heap_alloc_new]; simp
  · simp only [World.frozen?, heap_alloc_new]; simp

theorem zzBytes14_any (a : Option Addr) (len cap : Nat) (i off : Int) (w : World) (hl : len ≤ 1048576) :
    Calls Try.prog 14 #[.slice a len cap, .int .i64 i, .int .i64 off] w fun e w' => e = .returned (.bool true) ∧ w = w' := by
  go_enter Try.func14, Try.ntmps14
  go_wp2
  go_ret
  exact ⟨rfl, rfl⟩
theorem zzBytes14_not (a : Option Addr) (len cap : Nat) (i off : Int) (w : World) (hl : 1048576 < len) :
    Calls Try.prog 14 #[.slice a len cap, .int .i64 i, .int .i64 off] w fun e w' => e = .returned (.bool false) ∧ w = w' := by
  go_enter Try.func14, Try.ntmps14
  go_wp2
  go_ret
  exact ⟨rfl, rfl⟩
theorem zzBytes20_any (a : Option Addr) (len cap : Nat) (i off : Int) (w : World) (hl : len ≤ 1048576) :
    Calls Try.prog 20 #[.slice a len cap, .int .i64 i, .int .i64 off] w fun e w' => e = .returned (.bool true) ∧ w = w' := by
  go_enter Try.func20, Try.ntmps20
  go_wp2
  go_ret
  exact ⟨rfl, rfl⟩
theorem zzBytes20_not (a : Option Addr) (len cap : Nat) (i off : Int) (w : World) (hl : 1048576 < len) :
    Calls Try.prog 20 #[.slice a len cap, .int .i64 i, .int .i64 off] w fun e w' => e = .returned (.bool false) ∧ w = w' := by
  go_enter Try.func20, Try.ntmps20
  go_wp2
  go_ret
  exact ⟨rfl, rfl⟩

/-- The text v lies below block n. -/
def Old (v : Value) (n : Nat) : Prop := ∀ a len cap, v = .slice (some a) len cap → a.block < n
theorem Old.apart {v : Value} {n pb : Nat} (h : Old v n) (hp : n ≤ pb) : Apart v pb := fun a len cap e => by have := h a len cap e; omega
theorem Old.mono {v : Value} {n m : Nat} (h : Old v n) (hm : n ≤ m) : Old v m := fun a len cap e => by have := h a len cap e; omega
theorem Txt.below {w w' : World} {v : Value} {l : List Int} {B : Nat} (h : Txt w v l) (hb : Below B w w') (ho : Old v B) : Txt w' v l := by
  rcases h with h | ⟨b, q, cap, rfl, hc⟩
  · exact .inl h
  · exact .inr ⟨b, q, cap, rfl, fun i hi => (World.cell?_of_block (hb.block b (ho _ _ _ rfl))).trans (hc i hi)⟩
end Go.Proofs.Qxb6617969a.Base
