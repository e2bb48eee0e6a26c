import Derived.Test.Qxb6617969aKids
import Derived.Deep.RegionWith
import Derived.BigRegion
import Derived.Deep.RegionLaw
import Derived.Deep.AppendLies
namespace Go.Proofs.Qxb6617969a.Deep
open Go.RowKit

theorem info35 : (Try.prog.info? 35).map (fun i => (i.zero, i.size, i.bytes)) = some (some (.pointer none), 1, 8) := by kernel_rfl
theorem info3 : (Try.prog.info? 3).map (fun i => (i.zero, i.size, i.bytes)) = some (some (.int .i64 0), 1, 8) := by kernel_rfl
theorem info4 : (Try.prog.info? 4).map (fun i => (i.zero, i.size, i.bytes)) = some (some (.bool false), 1, 1) := by kernel_rfl

theorem one_ptr (p : Option Addr) : ∀ u ∈ [Value.pointer p], u.oneCell' = true := by
  intro u hu; simp at hu; subst hu; rfl

theorem one_bool (x : Bool) : ∀ u ∈ [Value.bool x], u.oneCell' = true := by
  intro u hu; simp at hu; subst hu; rfl

theorem keepA {N : Nat} {w : World} {u v z : Value} {A : List Nat} {Ps : List Int} {Cs : List Bool} {O : Obj} {x : Nat} {y c : Value} (h : Arr N w u v z A Ps Cs) (hs : Safe N w u v z x) (hy : w.cell? ⟨x, 1, none⟩ = some c) (hc : w.cell? ⟨N + 1 + 1, 0, none⟩ = some y) :
    (w.alloc O).drew.cell? ⟨N + 1 + 1, 0, none⟩ = some y ∧ (w.alloc O).drew.cell? ⟨x, 1, none⟩ = some c ∧ (w.alloc O).drew.frozen? ⟨N + 1 + 1, 0, none⟩ = false := by
  have h1 := h.sz
  have h2 := hs.2.1
  exact ⟨(World.cell?_of_block (Below.heap_alloc w O (N + 1 + 1) (by omega))).trans hc, (World.cell?_of_block (Below.heap_alloc w O x h2)).trans hy, (World.frozen?_of_block (Below.heap_alloc w O (N + 1 + 1) (by omega))).trans h.f3⟩

theorem keep7 {N : Nat} {w w5 : World} {u v z : Value} {A : List Nat} {Ps : List Int} {Cs : List Bool} {O : Obj} {x : Nat} {y c : Value} (h : Arr N w u v z A Ps Cs) (hg : ((w.alloc O).drew).grownBy w5 z.ownBlock) (hs : Safe N w u v z x) (hy : w.cell? ⟨x, 1, none⟩ = some c) (hc : w.cell? ⟨N + 1 + 1, 0, none⟩ = some y) :
    w5.cell? ⟨N + 1 + 1, 0, none⟩ = some y ∧ w5.cell? ⟨x, 1, none⟩ = some c ∧ w5.frozen? ⟨N + 1 + 1, 0, none⟩ = false := by
  have hg' : (w.alloc O).grownBy w5 z.ownBlock := ⟨hg.os, hg.tape, hg.output, hg.size, hg.block⟩
  have hlow := low_keep h.o3 hg' h.sz
  refine ⟨low_cell hlow (by omega) hc, ?_, low_frozen hlow (by omega) h.f3⟩
  have e : w5.heap[x]? = w.heap[x]? := by
    rw [hg'.block x (by have := hs.2.1; simp; omega) (fun e => hs.2.2.2.2 e.symm)]
    exact Below.heap_alloc w O x hs.2.1
  exact (World.cell?_of_block e).trans hy

set_option maxRecDepth 100000 in
set_option maxHeartbeats 4000000 in
theorem build_any (N : Nat) (W : World) (hWN : W.heap.size ≤ N) : ∀ (n : Nat) (t : Tree n) (cs : List Value) (p : Int) (w : World) (u v z : Value) (A : List Nat) (Ps : List Int) (Cs : List Bool),
    TAt W n t cs → Below W.heap.size W w → Arr N w u v z A Ps Cs → A.length + cnt n t + 1 ≤ 1048576 → Ps.length = A.length → Cs.length = A.length →
    Calls Try.prog 12 #[.agg cs.toArray, .int .i64 p, .pointer (some ⟨N, 0, none⟩), .pointer (some ⟨N + 1, 0, none⟩), .pointer (some ⟨N + 1 + 1, 0, none⟩)] w (Built N w u v z A Ps Cs n t p) := by
  intro n
  induction n with
  | zero => intro t cs p w u v z A Ps Cs h; exact h.elim
  | succ n ih =>
    intro t cs p w u v z A Ps Cs hT hW hA hcnt hP hC
    obtain ⟨nl, k, kids⟩ := t
    have IH := hid ih
    clear ih
    obtain ⟨a, cap, rfl, hr, hk⟩ := hT
    have HK := hid hk; have HA := hid hA; have HW := hid hW
    clear hk hA hW
    rw [cnt_succ] at hcnt
    cases nl with
    | true =>
      have HQ : Hid (∀ W', W' = w.alloc (.cells #[.bool true, .int .u8 k, .slice a kids.length cap] 30) → Built N w u v z A Ps Cs (n + 1) (true, k, kids) p (.returned (.pointer none)) W') := by
        intro W' e
        subst e
        refine ⟨none, u, v, z, [], rfl, ?_, ?_, .inl ⟨rfl, rfl⟩, (Fr.refl _ _ _ _ _).alloc (by have := HA.out.sz; omega) _⟩
        · rw [ps_succ]; simpa using HA.out.alloc _
        · rw [ps_succ]; rfl
      go_enter Try.func12, Try.ntmps12
      go_wp2_with fail
      go_ret
      exact HQ.out _ rfl
    | false =>
      obtain ⟨a1, q1, rfl⟩ := own_form HA.out.o1
      obtain ⟨a2, q2, rfl⟩ := own_form HA.out.o2
      obtain ⟨a3, q3, rfl⟩ := own_form HA.out.o3
      obtain ⟨w2, hw2⟩ : ∃ w2, w2 = (w.alloc (.cells #[.bool false, .int .u8 k, .slice a kids.length cap] 30)).alloc (.cells #[.int .u8 k, .int .u8 0, .int .i64 0, .string { data := #[] }, .slice none 0 0, .pointer none] 54) := ⟨_, rfl⟩
      obtain ⟨b, hb⟩ : ∃ b, b = w.heap.size + 1 := ⟨_, rfl⟩
      have hA2 : Arr N w2 (.slice a1 A.length q1) (.slice a2 Ps.length q2) (.slice a3 Cs.length q3) A Ps Cs := by rw [hw2]; exact (HA.out.alloc _).alloc _
      have hF2 : Fr N w (.slice a1 A.length q1) (.slice a2 Ps.length q2) (.slice a3 Cs.length q3) w2 (.slice a1 A.length q1) (.slice a2 Ps.length q2) (.slice a3 Cs.length q3) := by
        rw [hw2]; exact ((Fr.refl _ _ _ _ _).alloc (by have := HA.out.sz; omega) _).alloc (by have := HA.out.sz; simp; omega) _
      have hsb : Safe N w2 (.slice a1 A.length q1) (.slice a2 Ps.length q2) (.slice a3 Cs.length q3) b := by
        rw [hw2, hb]
        have := safe_new (HA.out.alloc (.cells #[.bool false, .int .u8 k, .slice a kids.length cap] 30)) (.cells #[.int .u8 k, .int .u8 0, .int .i64 0, .string { data := #[] }, .slice none 0 0, .pointer none] 54)
        simpa using this
      have hsx : Safe N w2 (.slice a1 A.length q1) (.slice a2 Ps.length q2) (.slice a3 Cs.length q3) w.heap.size := by
        rw [hw2]
        exact (((Fr.refl N (w.alloc (.cells #[.bool false, .int .u8 k, .slice a kids.length cap] 30)) _ _ _).alloc (by have := HA.out.sz; simp; omega) _).safe _ (safe_new HA.out _)).1
      have hhb : w2.heap[b]? = some (.cells #[.int .u8 k, .int .u8 0, .int .i64 0, .string { data := #[] }, .slice none 0 0, .pointer none] 54) := by
        rw [hw2, hb]
        have := heap_alloc_new (w.alloc (.cells #[.bool false, .int .u8 k, .slice a kids.length cap] 30)) (.cells #[.int .u8 k, .int .u8 0, .int .i64 0, .string { data := #[] }, .slice none 0 0, .pointer none] 54)
        simpa using this
      have hhx : w2.heap[w.heap.size]? = some (.cells #[.bool false, .int .u8 k, .slice a kids.length cap] 30) := by
        rw [hw2, Below.heap_alloc _ _ _ (by simp)]
        exact heap_alloc_new _ _
      have hs2 : w2.heap.size = w.heap.size + 1 + 1 := by rw [hw2]; simp
      have HA2 := hid hA2; have HF2 := hid hF2; have HSB := hid hsb; have HSX := hid hsx; have HHB := hid hhb; have HHX := hid hhx
      have hc1 := hA2.c1
      have HS2 := hid hs2; have HPL := hid hP; have HCL := hid hC
      have hPb : Ps.length + 1 ≤ 1048576 := by omega
      have hCb : Cs.length + 1 ≤ 1048576 := by omega
      clear hA2 hF2 hsb hsx hhb hhx hs2 hP hC
      go_enter Try.func12, Try.ntmps12
      go_upto_region 4 with fail
      rw [← hw2, ← hb]
      have HBQ := hid hb
      clear hw2 hb
      go_upto_region 5 with fail
      have hlA : A.length + 1 ≤ 1048576 := by omega
      go_cut [] (fun wz => ∃ a1' q1', Arr N wz (.slice a1' (A.length + 1) q1') (.slice a2 Ps.length q2) (.slice a3 Cs.length q3) (A ++ [b]) Ps Cs ∧ Fr N w2 (.slice a1 A.length q1) (.slice a2 Ps.length q2) (.slice a3 Cs.length q3) wz (.slice a1' (A.length + 1) q1') (.slice a2 Ps.length q2) (.slice a3 Cs.length q3))
      case first =>
        obtain ⟨i0, hi, hz0, hz1, hz2⟩ := info_parts info35
        go_wp2_with (at_builtin; refine wpList_append_own_at _ rfl (.tmp 28) (.tmp 30) 32 rfl (N + 3) 35 i0 (.pointer none) 1 8 Try.underlying32 hi hz0 hz1 hz2 rfl (by decide) _ _ _ rfl (HA2.out.o1.alloc _) ⟨w2.heap.size, 0, none⟩ 1 1 [.pointer (some ⟨b, 0, none⟩)] rfl rfl (cell_one_new _ _ _) (one_ptr _) (by unfold maxLen; omega) (by omega) (by have := HA2.out.sz; simp; omega) ?_)
        intro y' w3 o1 g1 _ t1
        obtain ⟨a1', q1', rfl⟩ := own_form o1
        have hlow := low_keep HA2.out.o1 g1 HA2.out.sz
        have hc3 := low_cell hlow (k := N) (by omega) HA2.out.c1
        have hf3 := low_frozen hlow (k := N) (by omega) HA2.out.f1
        have hfin := HA2.out.app1 b (by exact o1) g1 (by simpa using t1)
        have HFIN := hid hfin
        clear hfin o1 g1 t1 hlow hi hz0 hz1 hz2
        go_wp2_with fail
        go_meet
        case rel => exact ⟨a1', q1', HFIN.out.1, HFIN.out.2⟩
      case rest =>
        obtain ⟨a1', q1', hA3, hF3⟩ := hcut
        obtain ⟨w3, rfl⟩ : ∃ w3 : World, w3 = wc := ⟨_, rfl⟩
        have hc2 := hA3.c2
        have HA3 := hid hA3; have HF3 := hid hF3
        clear hA3 hF3 hc1
        go_upto_region 6 with fail
        go_cut [] (fun wz => ∃ a2' q2', Arr N wz (.slice a1' (A.length + 1) q1') (.slice a2' (Ps.length + 1) q2') (.slice a3 Cs.length q3) (A ++ [b]) (Ps ++ [p]) Cs ∧ Fr N w3 (.slice a1' (A.length + 1) q1') (.slice a2 Ps.length q2) (.slice a3 Cs.length q3) wz (.slice a1' (A.length + 1) q1') (.slice a2' (Ps.length + 1) q2') (.slice a3 Cs.length q3))
        case first =>
          obtain ⟨i0, hi, hz0, hz1, hz2⟩ := info_parts info3
          go_wp2_with (at_builtin; refine wpList_append_own_at _ rfl (.tmp 36) (.tmp 38) 33 rfl (N + 3) 3 i0 (.int .i64 0) 1 8 Try.underlying33 hi hz0 hz1 hz2 rfl (by decide) _ _ _ rfl (HA3.out.o2.alloc _) ⟨w3.heap.size, 0, none⟩ 1 1 [.int .i64 p] rfl rfl (cell_one_new _ _ _) (ints_oneCell .i64 [p]) (by unfold maxLen; omega) (by omega) (by have := HA3.out.sz; simp; omega) ?_)
          intro y' w4 o1 g1 _ t1
          obtain ⟨a2', q2', rfl⟩ := own_form o1
          have hlow := low_keep HA3.out.o2 g1 HA3.out.sz
          have hc3 := low_cell hlow (k := N + 1) (by omega) HA3.out.c2
          have hf3 := low_frozen hlow (k := N + 1) (by omega) HA3.out.f2
          have hfin := HA3.out.app2 p (by exact o1) g1 (by simpa using t1)
          have HFIN := hid hfin
          clear hfin o1 g1 t1 hlow hi hz0 hz1 hz2
          go_wp2_with fail
          go_meet
          case rel => exact ⟨a2', q2', HFIN.out.1, HFIN.out.2⟩
        case rest =>
          obtain ⟨a2', q2', hA4, hF4⟩ := hcut
          obtain ⟨w4, rfl⟩ : ∃ w4 : World, w4 = wc := ⟨_, rfl⟩
          have hc3 := hA4.c3
          have HA4 := hid hA4; have HF4 := hid hF4
          have hx4 := (HF3.out.trans HF4.out).safe _ HSX.out
          have hk4 : w4.cell? ⟨w.heap.size, 1, none⟩ = some (.int .u8 k) := by
            rw [cell_of_row w4 _ 1 _ _ _ (hx4.2.trans HHX.out)]; rfl
          have HX4 := hid hx4.1
          clear hA4 hF4 hc2 hx4
          go_upto_region 7 with fail
          go_cut [] (fun wz => ∃ a3' q3', Arr N wz (.slice a1' (A.length + 1) q1') (.slice a2' (Ps.length + 1) q2') (.slice a3' (Cs.length + 1) q3') (A ++ [b]) (Ps ++ [p]) (Cs ++ [coll k]) ∧ Fr N w4 (.slice a1' (A.length + 1) q1') (.slice a2' (Ps.length + 1) q2') (.slice a3 Cs.length q3) wz (.slice a1' (A.length + 1) q1') (.slice a2' (Ps.length + 1) q2') (.slice a3' (Cs.length + 1) q3'))
          case first =>
            obtain ⟨i0, hi, hz0, hz1, hz2⟩ := info_parts info4
            have GC := hid fun W => isColl_any k W
            have hf4 := HA4.out.f3
            have hlt4 : N + 1 + 1 < w4.heap.size := by have := HA4.out.sz; omega
            have hlx4 : w.heap.size < w4.heap.size := HX4.out.2.1
            go_wp2_with fail
            go_region_law (first | (go_simp; go_at_call 23; refine (GC.out _).mono ?_; rintro e w6 ⟨rfl, rfl⟩) | (refine step_append_lies _ (by rfl) (.tmp 44) (.tmp 48) 34 (by rfl) (N + 3) 4 i0 (.bool false) 1 1 Try.underlying34 hi hz0 hz1 hz2 rfl (by decide) (.slice a3 Cs.length q3) Cs.length (Cs.map boolV) (by rfl) (by exact HA4.out.o3.alloc _) ⟨w4.heap.size, 0, none⟩ 1 1 [.bool (coll k)] (by rfl) rfl (by exact cell_one_new _ _ _) (one_bool _) (by omega) (by unfold maxLen; omega) (by omega) (by have := HA4.out.sz; simp; omega) (w4.heap.size + 1) (by simp) ?_; intro g q3' w5 o1 g1 t1 _; have hst := keep7 HA4.out g1 HX4.out hk4 hc3) | fail)
            all_goals
              have hfin := HA4.out.app3 (y' := .slice (some ⟨g, 0, none⟩) (Cs.length + 1) q3') (O := .cells #[.bool (coll k)] 4) (coll k) (by exact o1) ⟨g1.os, g1.tape, g1.output, g1.size, g1.block⟩ (t1.elim (fun e => .inl e.symm) (fun e => .inr (by rw [e]; rfl)))
              have HFIN := hid hfin
              obtain ⟨hst1, hst2, hst3⟩ := hst
              clear hfin o1 g1 t1 hi hz0 hz1 hz2
              go_wp2_with fail
              go_meet
              case rel => exact ⟨some ⟨g, 0, none⟩, q3', HFIN.out.1, HFIN.out.2⟩
          case rest =>
            obtain ⟨a3', q3', hA5, hF5⟩ := hcut
            obtain ⟨w5, rfl⟩ : ∃ w5 : World, w5 = wc := ⟨_, rfl⟩
            have hF25 := (HF3.out.trans HF4.out).trans hF5
            have hx5 := hF25.safe _ HSX.out
            have hb5 := hF25.safe _ HSB.out
            have hc5 : w5.cell? ⟨w.heap.size, 2, none⟩ = some (.slice a kids.length cap) := by rw [cell_of_row w5 _ 2 _ _ _ (hx5.2.trans HHX.out)]; rfl
            have hn0 : w5.cell? ⟨b, 0, none⟩ = some (.int .u8 k) := by rw [cell_of_row w5 _ 0 _ _ _ (hb5.2.trans HHB.out)]; rfl
            have hn4 : w5.cell? ⟨b, 4, none⟩ = some (.slice none 0 0) := by rw [cell_of_row w5 _ 4 _ _ _ (hb5.2.trans HHB.out)]; rfl
            have hz4 : w5.frozen? ⟨b, 4, none⟩ = false := by
              unfold World.frozen?
              rw [show (⟨b, 4, none⟩ : Addr).block = b from rfl, hb5.2.trans HHB.out]; simp
            have hFw := HF2.out.trans hF25
            have HB5 := hid hb5.1; have HX5 := hid hx5.1; have HA5 := hid hA5; have HFW := hid hFw; have HN0 := hid hn0; have HN4 := hid hn4; have HZ4 := hid hz4
            have hwb : w.heap.size ≤ b := by rw [HBQ.out]; omega
            clear hA5 hF5 hF25 hx5 hb5 hFw hn0 hn4 hz4 hc3 hk4 HA2 HA3 HA4 HX4 HHB HHX HF2 HF3 HF4 HSB HSX
            by_cases hnil : kids = []
            · subst hnil
              have HQ := hid (built_leaf (n := n) HA5.out HFW.out HB5.out hwb HN0.out HN4.out)
              simp only [List.length_nil] at hc5
              go_wp2_with fail
              go_ret
              exact HQ.out
            · have hlpos : 0 < kids.length := List.length_pos_iff.2 hnil
              clear hnil
              obtain ⟨i0, hi, hz0, hz1, hz2⟩ := info_parts info35
              have hmk := run_make (P := Try.prog) w5 32 35 i0 _ Try.underlying32 hi hz0 .i64 .i64 kids.length kids.length (by omega) (Int.le_refl _) (by rw [hz2]; omega) (by omega)
              simp only [Int.toNat_natCast, hz1] at hmk
              have hmid := Mid.start HA5.out n kids A.length
              obtain ⟨w6, hw6⟩ : ∃ w6, w6 = w5.alloc (.cells (madeCells (Value.pointer none).cells (kids.length * 1)) 35) := ⟨_, rfl⟩
              rw [← hw6] at hmk hmid
              obtain ⟨g, hg⟩ : ∃ g, g = w5.heap.size := ⟨_, rfl⟩
              have hbg : b < g := by rw [hg]; exact HB5.out.2.1
              have hNb : N ≤ b := by have := HB5.out.1; omega
              rw [← hg] at hmk hmid
              have hc6 : w6.cell? ⟨w.heap.size, 2, none⟩ = some (.slice a kids.length cap) := (World.cell?_of_block (hmid.fr.safe _ HX5.out).2).trans hc5
              have HMID := hid hmid; have HG0 := hid hg
              have hln : (kids.length : Int) ≤ 1048576 := by omega
              clear hmid hg hw6 hi hz0 hz1 hz2
              go_wp2_with fail
              go_loopg [14] kids.length (fun gh x wr => ∃ (j : Nat) (u' v' z' : Value) (B : List Nat), x = .int .i64 j ∧ j ≤ kids.length ∧ Mid N w5 (.slice a1' (A.length + 1) q1') (.slice a2' (Ps.length + 1) q2') (.slice a3' (Cs.length + 1) q3') (A ++ [b]) (Ps ++ [p]) (Cs ++ [coll k]) n kids A.length g j wr u' v' z' B ∧ gh = kids.length - j)
              case atStart => exact ⟨0, _, _, _, [], rfl, Nat.zero_le _, HMID.out, rfl⟩
              case round =>
                obtain ⟨j, u', v', z', B, rfl, hj, hM, hg⟩ := hrel
                have hbox : wr.cell? ⟨w.heap.size, 2, none⟩ = some (.slice a kids.length cap) := (World.cell?_of_block (hM.fr.safe _ HX5.out).2).trans hc5
                have HM := hid hM; have HG := hid hg
                clear hM hg hc5 hc6 hmk
                by_cases hlt : j < kids.length
                · obtain ⟨bb, o, c0, c1, c2, rfl, e0, e1, e2, hT⟩ := HK.out j hlt
                  have hbl : Below W.heap.size W wr := HW.out.trans ((HFW.out.trans HM.out.fr).below.mono hWN)
                  have hcell : ∀ q v, W.cell? ⟨bb, q, none⟩ = some v → wr.cell? ⟨bb, q, none⟩ = some v := fun q v hv =>
                    (World.cell?_of_block (hbl.block bb (World.block_lt_of_cell? W _ hv))).trans hv
                  have f0 := hcell _ _ e0
                  have f1 := hcell _ _ e1
                  have f2 := hcell _ _ e2
                  have hroom := kids_room n kids A.length j hlt
                  have hlB := HM.out.len
                  have G := hid (IH.out (kids[j]'hlt) [c0, c1, c2] (A.length : Int) wr u' v' z' (A ++ [b] ++ B) _ _ hT hbl HM.out.arr (by simp only [List.length_append, List.length_cons, List.length_nil]; omega) (by simp only [List.length_append, List.length_cons, List.length_nil, List.length_map]; have := HPL.out; omega) (by simp only [List.length_append, List.length_cons, List.length_nil, List.length_map]; have := HCL.out; omega))
                  clear hcell e0 e1 e2 hT hbl hroom hlB
                  go_wp2_with fail
                  refine G.out.mono ?_
                  rintro e w7 ⟨pv, u2, v2, z2, B', rfl, b1, b2, b3, b4⟩
                  have hst := HM.out.step (by simp) HG0.out (by omega) hlt b1 b2 b3 b4
                  obtain ⟨⟨x, hx⟩, hf⟩ := HM.out.row j hlt
                  have hk := b4.safe g HM.out.sg
                  have hx7 : w7.cell? ⟨g, j, none⟩ = some x := (World.cell?_of_block hk.2).trans hx
                  have hf7 : w7.frozen? ⟨g, j, none⟩ = false := (World.frozen?_of_block hk.2).trans hf
                  have HST := hid hst
                  clear hst hk hx hf b1 b2 b3 b4 f0 f1 f2 hbox
                  go_wp2_with fail
                  go_roundg (kids.length - (j + 1))
                  case measure => rw [HG.out]; omega
                  case rel => exact ⟨j + 1, u2, v2, z2, B ++ B', by go_num, by omega, HST.out, rfl⟩
                · obtain rfl : j = kids.length := by omega
                  have hb4 := (HM.out.fr.safe _ HB5.out).2
                  have hn4 : wr.cell? ⟨b, 4, none⟩ = some (.slice none 0 0) := (World.cell?_of_block hb4).trans HN4.out
                  have hz4 : wr.frozen? ⟨b, 4, none⟩ = false := (World.frozen?_of_block hb4).trans HZ4.out
                  have HQ := hid (HM.out.built HFW.out HB5.out hwb hbg hNb HN0.out HN4.out)
                  clear hb4
                  go_wp2_with fail
                  go_ret
                  exact HQ.out
end Go.Proofs.Qxb6617969a.Deep
