import Derived.Test.Qxb6617969aTreeLaw
import Derived.Test.Qxb6617969aBase
import Derived.Deep.LoopGhost
import Derived.Deep.DeepCutAuto
import Derived.Deep.CutBlock
import Derived.WalkSpells
import Derived.WalkLawsBesides
namespace Go.Proofs.Qxb6617969a.Deep
open Go.RowKit

theorem hid {p : Prop} (h : p) : Hid p := h

/-- The three cells cs hold the tree t in world w. -/
def TAt (w : World) : (n : Nat) → Tree n → List Value → Prop
  | 0, _, _ => False
  | n + 1, (nl, k, kids), cs => ∃ a cap, cs = [.bool nl, .int .u8 k, .slice a kids.length cap] ∧ kids.length * 32 ≤ 140737488351232 ∧
      ∀ i (h : i < kids.length), ∃ b o c0 c1 c2, a = some ⟨b, o, none⟩ ∧ w.cell? ⟨b, o + i * 3, none⟩ = some c0 ∧ w.cell? ⟨b, o + i * 3 + 1, none⟩ = some c1 ∧ w.cell? ⟨b, o + i * 3 + 2, none⟩ = some c2 ∧ TAt w n (kids[i]'h) [c0, c1, c2]

theorem TAt_succ (w : World) (n : Nat) (nl : Bool) (k : Int) (kids : List (Tree n)) (cs : List Value) : TAt w (n + 1) (nl, k, kids) cs = ∃ a cap, cs = [.bool nl, .int .u8 k, .slice a kids.length cap] ∧ kids.length * 32 ≤ 140737488351232 ∧
      ∀ i (h : i < kids.length), ∃ b o c0 c1 c2, a = some ⟨b, o, none⟩ ∧ w.cell? ⟨b, o + i * 3, none⟩ = some c0 ∧ w.cell? ⟨b, o + i * 3 + 1, none⟩ = some c1 ∧ w.cell? ⟨b, o + i * 3 + 2, none⟩ = some c2 ∧ TAt w n (kids[i]'h) [c0, c1, c2] := rfl

theorem TAt.below {w w' : World} (hb : Below w.heap.size w w') : ∀ (n : Nat) (t : Tree n) (cs : List Value), TAt w n t cs → TAt w' n t cs
  | 0, _, _, h => h
  | n + 1, (nl, k, kids), cs, h => by
    rw [TAt_succ] at h ⊢
    obtain ⟨a, cap, e, hr, hk⟩ := h
    refine ⟨a, cap, e, hr, fun i hi => ?_⟩
    obtain ⟨b, o, c0, c1, c2, ea, h0, h1, h2, h3⟩ := hk i hi
    have hc : ∀ j v, w.cell? ⟨b, j, none⟩ = some v → w'.cell? ⟨b, j, none⟩ = some v := fun j v hv =>
      (World.cell?_of_block (hb.block b (World.block_lt_of_cell? w _ hv))).trans hv
    exact ⟨b, o, c0, c1, c2, ea, hc _ _ h0, hc _ _ h1, hc _ _ h2, TAt.below hb n _ _ h3⟩

set_option maxRecDepth 100000 in
set_option maxHeartbeats 1000000 in
theorem left_any : ∀ (n : Nat) (t : Tree n) (cs : List Value) (x : Int) (w : World), TAt w n t cs → 0 ≤ x → x ≤ 1048576 →
    Calls Try.prog 11 #[.agg cs.toArray, .int .i64 x] w fun e w' => e = .returned (.int .i64 (tl n t x)) ∧ Below w.heap.size w w' := by
  intro n
  induction n with
  | zero => intro t cs x w h; exact h.elim
  | succ n ih =>
    intro t cs x w h h0 h1
    obtain ⟨nl, k, kids⟩ := t
    have IH := hid ih
    clear ih
    obtain ⟨a, cap, rfl, hr, hk⟩ := h
    have HK := hid hk
    clear hk
    rw [tl_fold]
    have hlen : (kids.length : Int) * 32 ≤ 140737488351232 := by omega
    go_enter Try.func11, Try.ntmps11
    go_upto_block 0 with fail
    go_cut [1, 5] (fun v _ wz => v = .int .i64 (kids.foldl (tlF n) (x - 32 * kids.length)) ∧ Below w.heap.size w wz)
    case first =>
      go_wp2_with fail
      go_loopg [1, 5] kids.length (fun g v i wr => ∃ (j : Nat) (y : Int), v = .int .i64 y ∧ i = .int .i64 j ∧ j ≤ kids.length ∧ y = (kids.take j).foldl (tlF n) (x - 32 * kids.length) ∧ y ≤ 1048576 ∧ wr.cell? ⟨w.heap.size, 2, none⟩ = some (.slice a kids.length cap) ∧ Below w.heap.size w wr ∧ w.heap.size < wr.heap.size ∧ g = kids.length - j)
      case atStart => exact ⟨0, _, rfl, rfl, Nat.zero_le _, by simp, by omega, by simp, (Below.refl _ _).alloc (Nat.le_refl _) _, by simp, rfl⟩
      case round =>
        obtain ⟨j, y, rfl, rfl, hj, hy, hy1, hc, hb, hsz, hg⟩ := hrel
        have HY := hid hy; have HB := hid hb; have HG := hid hg
        clear hy hb hg
        by_cases hlt : j < kids.length
        · by_cases hy0 : 0 ≤ y
          · obtain ⟨b, o, c0, c1, c2, rfl, e0, e1, e2, hT⟩ := HK.out j hlt
            have hcell : ∀ q v, w.cell? ⟨b, q, none⟩ = some v → wr.cell? ⟨b, q, none⟩ = some v := fun q v hv =>
              (World.cell?_of_block (HB.out.block b (World.block_lt_of_cell? w _ hv))).trans hv
            have f0 := hcell _ _ e0
            have f1 := hcell _ _ e1
            have f2 := hcell _ _ e2
            have G := hid (IH.out (kids[j]'hlt) [c0, c1, c2] y wr (TAt.below HB.out n _ _ hT) hy0 hy1)
            have hle := tl_le n (kids[j]'hlt) y
            have HN : Hid (tl n (kids[j]'hlt) y = (kids.take (j + 1)).foldl (tlF n) (x - 32 * kids.length)) := by
              show _ = _
              rw [tlF_take n kids j hlt, ← HY.out]
              unfold tlF
              rw [if_pos hy0]
            clear hcell e0 e1 e2 hT
            go_wp2_with fail
            refine G.out.mono ?_
            rintro e w2 ⟨rfl, hb2⟩
            have hbw : Below w.heap.size w w2 := HB.out.trans (hb2.mono (by omega))
            have hcw : w2.cell? ⟨w.heap.size, 2, none⟩ = some (.slice (some ⟨b, o, none⟩) kids.length cap) := (World.cell?_of_block (hb2.block _ hsz)).trans hc
            have hsw : w.heap.size < w2.heap.size := Nat.lt_of_lt_of_le hsz hb2.size
            have HBW := hid hbw
            clear hbw hb2 hc f0 f1 f2
            go_wp2_with fail
            go_roundg (kids.length - (j + 1))
            case measure => rw [HG.out]; omega
            case rel => exact ⟨j + 1, _, rfl, by go_num, by omega, HN.out, by omega, hcw, HBW.out, hsw, rfl⟩
          · have HE := hid (tlF_cut n kids j (x - 32 * kids.length) (by rw [← HY.out]; omega))
            go_wp2_with fail
            go_meet
            case rel => exact ⟨by rw [HE.out, ← HY.out], HB.out⟩
        · have HE : Hid (y = kids.foldl (tlF n) (x - 32 * kids.length)) := by
            show _ = _
            rw [HY.out, List.take_of_length_le (by omega)]
          go_wp2_with fail
          go_meet
          case rel => exact ⟨by rw [HE.out], HB.out⟩
    case rest =>
      obtain ⟨rfl, hb⟩ := hcut
      have HB := hid hb
      clear hb
      go_wp2_with fail
      go_ret
      exact ⟨rfl, HB.out⟩
end Go.Proofs.Qxb6617969a.Deep
