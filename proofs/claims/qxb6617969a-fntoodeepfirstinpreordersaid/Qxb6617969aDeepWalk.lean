import Derived.Test.Qxb6617969aBuild
import Derived.Test.Qxb6617969aLevel
import Derived.LaidEqlPtr
namespace Go.Proofs.Qxb6617969a.Deep
open Go.RowKit

set_option maxRecDepth 100000 in
theorem shim_any (S : Nat → Prop) (A : List Nat) (pb : Nat) (mx : Int) (n : Nat) (t : Tree n) (p : Option Addr) (me : Nat) (d : Int) (w : World) (h : GAt S w A n t (.pointer p) me) (hm : w.cell? ⟨pb, 4, none⟩ = some (.int .i64 mx))
    (hd : -9223372036854775808 ≤ d) (hd2 : d + cnt n t + 1 ≤ 9223372036854775807) (hc : cnt n t ≤ 1048576) :
    Calls Try.prog 13 #[.pointer (some ⟨pb, 0, none⟩), .pointer p, .int .i64 d] w fun e w' => e = .returned (.pointer (ptrOf A (td mx n t d me))) ∧ w' = w := by
  have G := hid (deep_any S A pb mx n t p me d w h hm hd hd2 hc)
  clear h hm
  go_enter Try.func13, Try.ntmps13
  go_wp2_with fail
  refine G.out.mono ?_
  rintro e w2 ⟨rfl, rfl⟩
  go_wp2_with fail
  go_ret
  exact ⟨rfl, rfl⟩

theorem own_nil (w : World) (B : Nat) (e : TypeId) : w.ownsRow B e 1 (.slice none 0 0) 0 [] := ⟨rfl, .inl ⟨rfl, rfl⟩⟩

/-- The three empty slices. -/
theorem arr_start (w : World) : Arr w.heap.size (((w.alloc (.cells #[.slice none 0 0] 32)).alloc (.cells #[.slice none 0 0] 33)).alloc (.cells #[.slice none 0 0] 34)) (.slice none 0 0) (.slice none 0 0) (.slice none 0 0) [] [] [] := by
  refine ⟨?_, ?_, ?_, ?_, ?_, ?_, own_nil _ _ _, own_nil _ _ _, own_nil _ _ _, ?_, ?_, ?_, by simp⟩
  · rw [World.cell?_alloc_past _ _ _ (by simp; omega), World.cell?_alloc_past _ _ _ (by simp), World.cell?_alloc_at _ _ _ _ rfl]; rfl
  · rw [World.cell?_alloc_past _ _ _ (by simp), World.cell?_alloc_at _ _ _ _ (by simp)]; rfl
  · rw [World.cell?_alloc_at _ _ _ _ (by simp)]; rfl
  · rw [World.frozen?_alloc_past _ _ _ (by simp; omega), World.frozen?_alloc_past _ _ _ (by simp), World.frozen?_alloc_at _ _ _ _ rfl]
  · rw [World.frozen?_alloc_past _ _ _ (by simp), World.frozen?_alloc_at _ _ _ _ (by simp)]
  · rw [World.frozen?_alloc_at _ _ _ _ (by simp)]
  · intro k hk; cases hk
  · intro k hk; cases hk
  · intro k hk; cases hk

theorem HXJ {n : Nat} {t : Tree n} {X : List (Int × Bool)} (hX : X = ps n t (-1) 0) {j : Nat} {p : Int} {c : Bool} (h : X[j]? = some (p, c)) : p < (j : Int) := by
  rw [hX] at h
  have := ps_par n t (-1) 0 j p c (by omega) h
  omega

set_option maxRecDepth 100000 in
set_option maxHeartbeats 4000000 in
theorem law_main (n : Nat) (t : Tree n) (cs : List Value) (dep mx : Int) (w : World) (hT : TAt w n t cs) (hd : -9223372036854775808 ≤ dep) (hd' : dep ≤ 9223372036854775807) (hx : -9223372036854775808 ≤ mx) (hx' : mx ≤ 9223372036854775807) :
    Calls Try.prog 4 #[.agg cs.toArray, .int .i64 dep, .int .i64 mx] w fun e w' => e = .returned (.bool true) ∧ Below w.heap.size w w' := by
  cases n with
  | zero => exact hT.elim
  | succ n =>
  obtain ⟨nl, k, kids⟩ := t
  have hT' := hT
  obtain ⟨a, cap, rfl, hr, hk⟩ := hT'
  have HT := hid hT
  clear hk hT
  obtain ⟨t, ht⟩ : ∃ t : Tree (n + 1), t = (nl, k, kids) := ⟨_, rfl⟩
  have HTT : Hid (TAt w (n + 1) t [.bool nl, .int .u8 k, .slice a kids.length cap]) := by rw [ht]; exact HT.out
  clear HT ht
  obtain ⟨w1, hw1⟩ : ∃ w1, w1 = w.alloc (.cells #[.bool nl, .int .u8 k, .slice a kids.length cap] 30) := ⟨_, rfl⟩
  have hb1 : Below w.heap.size w w1 := by rw [hw1]; exact (Below.refl _ _).alloc (Nat.le_refl _) _
  have hs1 : w.heap.size < w1.heap.size := by rw [hw1]; simp
  have hh1 : w1.heap[w.heap.size]? = some (.cells #[.bool nl, .int .u8 k, .slice a kids.length cap] 30) := by rw [hw1]; exact heap_alloc_new _ _
  have G1 := hid (left_any (n + 1) t _ 1048576 w1 (HTT.out.below hb1) (by omega) (by omega))
  have hp0 : w1.cell? ⟨w.heap.size, 0, none⟩ = some (.bool nl) := by rw [cell_of_row w1 _ 0 _ _ _ hh1]; rfl
  have hp1 : w1.cell? ⟨w.heap.size, 1, none⟩ = some (.int .u8 k) := by rw [cell_of_row w1 _ 1 _ _ _ hh1]; rfl
  have hp2 : w1.cell? ⟨w.heap.size, 2, none⟩ = some (.slice a kids.length cap) := by rw [cell_of_row w1 _ 2 _ _ _ hh1]; rfl
  have HB1 := hid hb1; have HH1 := hid hh1
  clear hb1 hh1
  go_enter Try.func4, Try.ntmps4
  go_upto_region 1 with fail
  rw [← hw1]
  have HW1 := hid hw1
  clear hw1
  go_wp2_with fail
  refine G1.out.mono ?_
  rintro e w2 ⟨rfl, hb2⟩
  have hb02 : Below w.heap.size w w2 := HB1.out.trans (hb2.mono (by omega))
  by_cases hneg : tl (n + 1) t 1048576 < 0
  · have HB2 := hid hb02
    clear hb2 hb02
    go_wp2_with fail
    go_ret
    exact ⟨rfl, HB2.out⟩
  have hcnt : cnt (n + 1) t ≤ 32768 := by
    have := tl_cnt (n + 1) t 1048576 (by omega)
    omega
  by_cases hdp : 9223372036853727231 < dep
  · have HB2 := hid hb02
    clear hb2 hb02 hcnt
    go_wp2_with fail
    go_ret
    exact ⟨rfl, HB2.out⟩
  have hq : w2.heap[w.heap.size]? = w1.heap[w.heap.size]? := hb2.block _ hs1
  have hs2 : w.heap.size < w2.heap.size := Nat.lt_of_lt_of_le hs1 hb2.size
  obtain ⟨N, hN⟩ : ∃ N, N = w2.heap.size := ⟨_, rfl⟩
  obtain ⟨w3, hw3⟩ : ∃ w3, w3 = (((w2.alloc (.cells #[.slice none 0 0] 32)).alloc (.cells #[.slice none 0 0] 33)).alloc (.cells #[.slice none 0 0] 34)) := ⟨_, rfl⟩
  have hA3 : Arr N w3 (.slice none 0 0) (.slice none 0 0) (.slice none 0 0) [] [] [] := by rw [hN, hw3]; exact arr_start w2
  have hb23 : Below N w2 w3 := by rw [hN, hw3]; exact (((Below.refl _ _).alloc (Nat.le_refl _) _).alloc (by simp) _).alloc (by simp; omega) _
  have hb03 : Below w.heap.size w w3 := hb02.trans (hb23.mono (by omega))
  have hq3 : w3.heap[w.heap.size]? = some (.cells #[.bool nl, .int .u8 k, .slice a kids.length cap] 30) := (hb23.block _ (by omega)).trans (hq.trans HH1.out)
  have hp0' : w3.cell? ⟨w.heap.size, 0, none⟩ = some (.bool nl) := by rw [cell_of_row w3 _ 0 _ _ _ hq3]; rfl
  have hp1' : w3.cell? ⟨w.heap.size, 1, none⟩ = some (.int .u8 k) := by rw [cell_of_row w3 _ 1 _ _ _ hq3]; rfl
  have hp2' : w3.cell? ⟨w.heap.size, 2, none⟩ = some (.slice a kids.length cap) := by rw [cell_of_row w3 _ 2 _ _ _ hq3]; rfl
  have G2 := hid (build_any N w (by omega) (n + 1) t _ (-1) w3 _ _ _ [] [] [] HTT.out hb03 hA3 (by simp; omega) rfl rfl)
  have HB03 := hid hb03
  clear hq hq3 hb23 hb02 hb2 hA3 hb03 hp0 hp1 hp2
  go_upto_region 8 with fail
  rw [← hw3, ← hN]
  have HW3 := hid hw3; have HN := hid hN
  clear hw3 hN
  go_wp2_with fail
  refine G2.out.mono ?_
  rintro e w4 ⟨pv, u, v, z, A, rfl, hA, hlen, hG, hF⟩
  simp only [List.nil_append, List.length_nil] at hA hlen hG
  obtain ⟨X, hX⟩ : ∃ X, X = ps (n + 1) t (-1) 0 := ⟨_, rfl⟩
  rw [← hX] at hA hlen
  obtain ⟨m, hm⟩ : ∃ m, m = X.length := ⟨_, rfl⟩
  have hmb : m ≤ 32769 := by rw [hm, hX]; have := ps_le (n + 1) t (-1) 0; omega
  have hAl : A.length = m := by rw [hm]; exact hlen
  have o1 : w4.ownsRow (N + 3) 35 1 u m (A.map nodeV) := by have := hA.o1; rwa [hAl] at this
  have o2 : w4.ownsRow (N + 3) 3 1 v m ((X.map Prod.fst).map intV) := by have := hA.o2; rwa [List.length_map, ← hm] at this
  have o3 : w4.ownsRow (N + 3) 4 1 z m ((X.map Prod.snd).map boolV) := by have := hA.o3; rwa [List.length_map, ← hm] at this
  obtain ⟨a1, q1, rfl⟩ := own_form o1
  have hc1 := hA.c1
  have hNl : w.heap.size ≤ N := by rw [HN.out]; omega
  have hb04 : Below w.heap.size w w4 := HB03.out.trans (hF.below.mono hNl)
  obtain ⟨i0, hi, hz0, hz1, hz2⟩ := info_parts info3
  have hmk := run_make (P := Try.prog) w4 33 3 i0 _ Try.underlying33 hi hz0 .i64 .i64 m m (by omega) (Int.le_refl _) (by rw [hz2]; omega) (by omega)
  simp only [Int.toNat_natCast, hz1] at hmk
  have hlv := Lv.start w4 m dep mx X
  obtain ⟨w5, hw5⟩ : ∃ w5, w5 = w4.alloc (.cells (madeCells (Value.int .i64 0).cells (m * 1)) 3) := ⟨_, rfl⟩
  rw [← hw5] at hmk hlv
  obtain ⟨g, hg⟩ : ∃ g, g = w4.heap.size := ⟨_, rfl⟩
  have hNg : N + 3 ≤ g := by rw [hg]; exact hA.sz
  rw [← hg] at hmk hlv
  have HLV := hid hlv; have HA := hid hA; have HO1 := hid o1; have HO2 := hid o2; have HO3 := hid o3; have HG := hid hG; have HG0 := hid hg; have HX := hid hX; have HM := hid hm; have HAL := hid hAl; have HB4 := hid hb04
  have hmi : (m : Int) ≤ 32769 := by omega
  clear hlv hA o1 o2 o3 hG hg hX hm hAl hb04 hw5 hi hz0 hz1 hz2 hlen hF G1 G2 hp0' hp1' hp2'
  go_wp2_with fail
  go_loopg [12, 13] m (fun gh wv x wr => ∃ (j : Nat) (ls : List Int) (ws : Option Nat), wv = .pointer (ptrOf A ws) ∧ x = .int .i64 j ∧ j ≤ m ∧ Lv w4 g m dep mx X j wr ls ws ∧ gh = m - j)
  case atStart => exact ⟨0, [], none, rfl, rfl, Nat.zero_le _, HLV.out, rfl⟩
  case round =>
    obtain ⟨j, ls, ws, rfl, rfl, hj, hL, hgh⟩ := hrel
    have hcar : ∀ b o x, b < g → w4.cell? ⟨b, o, none⟩ = some x → wr.cell? ⟨b, o, none⟩ = some x := fun b o x hb h => (World.cell?_of_block (hL.below.block b hb)).trans h
    have HC := hid hcar; have HL := hid hL; have HGH := hid hgh
    clear hcar hL hgh hc1 hmk
    by_cases hlt : j < m
    · obtain ⟨g1, q1', x1, hu, ex1, ec1, el1⟩ := own_cell HO1.out hlt
      simp only [Value.slice.injEq] at hu
      obtain ⟨rfl, _, rfl⟩ := hu
      obtain ⟨g2, q2, x2, rfl, ex2, ec2, el2⟩ := own_cell HO2.out hlt
      obtain ⟨g3, q3, x3, rfl, ex3, ec3, el3⟩ := own_cell HO3.out hlt
      have hjX : j < X.length := by have := HM.out; omega
      obtain ⟨⟨p, c⟩, hXj⟩ : ∃ x, X[j]? = some x := ⟨_, List.getElem?_eq_getElem hjX⟩
      obtain ⟨nb, hnb⟩ : ∃ nb, A[j]? = some nb := ⟨_, List.getElem?_eq_getElem (by have := HAL.out; omega)⟩
      have hnb' : A.getD j 0 = nb := by simp [List.getD, hnb]
      simp only [List.getElem?_map, hnb, hXj, Option.map_some, Option.some.injEq] at ex1 ex2 ex3
      subst ex1 ex2 ex3
      have hpj : p < (j : Int) := by
        have := HXJ HX.out hXj
        exact this
      have hbl := lvl_bd HL.out.bd p hpj
      have hg4 := HG0.out
      have d1 := HC.out N 0 _ (by omega) HA.out.c1
      have d2 := HC.out (N + 1) 0 _ (by omega) HA.out.c2
      have d3 := HC.out (N + 1 + 1) 0 _ (by omega) HA.out.c3
      have e1 := HC.out g1 j _ (by omega) ec1
      have e2 := HC.out g2 j _ (by omega) ec2
      have e3 := HC.out g3 j _ (by omega) ec3
      simp only [nodeV, intV, boolV] at e1 e2 e3
      obtain ⟨L, hLv⟩ : ∃ L, L = lvl ls p + one c := ⟨_, rfl⟩
      have hst := HL.out.step hlt hXj hpj
      rw [← hLv] at hst
      obtain ⟨w8, hw8⟩ : ∃ w8, w8 = wr.setCell ⟨g, j, none⟩ (.int .i64 L) := ⟨_, rfl⟩
      rw [← hw8] at hst
      have hk8 : ∀ b o x, b < g → wr.cell? ⟨b, o, none⟩ = some x → w8.cell? ⟨b, o, none⟩ = some x := fun b o x hb h => by
        rw [hw8, World.cell?_setCell_other _ _ _ _ (by simp)]; exact h
      have d1' := hk8 _ _ _ (by omega) d1
      have d3' := hk8 _ _ _ (by omega) d3
      have e1' := hk8 _ _ _ (by omega) e1
      have e3' := hk8 _ _ _ (by omega) e3
      obtain ⟨xj, hcj, _⟩ := HL.out.cell j hlt
      have hfj := HL.out.froz j
      have HNB := hid hnb'; have HST := hid hst; have HLVE := hid hLv
      clear hk8 hst ec1 ec2 ec3 el1 el2 el3 hnb hnb' hXj hjX hLv hg4
      by_cases hp0 : p < 0
      · have hlvl : lvl ls p = 0 := by unfold lvl; rw [if_neg (by omega)]
        clear hbl
        cases c with
        | false =>
          obtain rfl : L = 0 := by rw [HLVE.out, hlvl]; simp [one]
          cases ws with
          | some q =>
            simp only [ptrOf]
            have HS := hid (show Lv w4 g m dep mx X (j + 1) w8 (ls ++ [0]) (some q) from by have := HST.out; simpa using this)
            clear HST HLVE hlvl
            go_upto_region 20 with fail
            rw [← hw8]
            clear hw8
            go_wp2_with fail
            go_roundg (m - (j + 1))
            case measure => rw [HGH.out]; omega
            case rel => exact ⟨j + 1, _, some q, rfl, by go_num, by omega, HS.out, rfl⟩
          | none =>
            simp only [ptrOf]
            have HS := hid (show Lv w4 g m dep mx X (j + 1) w8 (ls ++ [0]) none from by have := HST.out; simpa using this)
            clear HST HLVE hlvl
            go_upto_region 20 with fail
            rw [← hw8]
            clear hw8
            go_wp2_with fail
            go_roundg (m - (j + 1))
            case measure => rw [HGH.out]; omega
            case rel => exact ⟨j + 1, _, none, rfl, by go_num, by omega, HS.out, rfl⟩
        | true =>
          obtain rfl : L = 1 := by rw [HLVE.out, hlvl]; simp [one]
          cases ws with
          | some q =>
            simp only [ptrOf]
            have HS := hid (show Lv w4 g m dep mx X (j + 1) w8 (ls ++ [1]) (some q) from by have := HST.out; simpa using this)
            clear HST HLVE hlvl
            go_upto_region 20 with fail
            rw [← hw8]
            clear hw8
            go_wp2_with fail
            go_roundg (m - (j + 1))
            case measure => rw [HGH.out]; omega
            case rel => exact ⟨j + 1, _, some q, rfl, by go_num, by omega, HS.out, rfl⟩
          | none =>
            simp only [ptrOf]
            by_cases hcmp : mx < dep + (1)
            · have HS := hid (show Lv w4 g m dep mx X (j + 1) w8 (ls ++ [1]) (some j) from by have := HST.out; simpa [hcmp] using this)
              clear HST HLVE hlvl
              go_upto_region 20 with fail
              rw [← hw8]
              clear hw8
              go_wp2_with fail
              go_roundg (m - (j + 1))
              case measure => rw [HGH.out]; omega
              case rel => exact ⟨j + 1, _, some j, by simp only [ptrOf]; rw [HNB.out], by go_num, by omega, HS.out, rfl⟩
            · have HS := hid (show Lv w4 g m dep mx X (j + 1) w8 (ls ++ [1]) none from by have := HST.out; simpa [hcmp] using this)
              clear HST HLVE hlvl
              go_upto_region 20 with fail
              rw [← hw8]
              clear hw8
              go_wp2_with fail
              go_roundg (m - (j + 1))
              case measure => rw [HGH.out]; omega
              case rel => exact ⟨j + 1, _, none, rfl, by go_num, by omega, HS.out, rfl⟩
      · obtain ⟨pn, rfl⟩ : ∃ pn : Nat, p = (pn : Int) := ⟨p.toNat, by omega⟩
        obtain ⟨y, hy, hye⟩ := HL.out.cell pn (by omega)
        have hlvl : lvl ls (pn : Int) = y := by unfold lvl; rw [if_pos (by omega), hye (by omega), Int.toNat_natCast]
        rw [hlvl] at hbl
        obtain ⟨hy0, hy1⟩ := hbl
        clear hye
        cases c with
        | false =>
          obtain rfl : L = y := by rw [HLVE.out, hlvl]; simp [one]
          cases ws with
          | some q =>
            simp only [ptrOf]
            have HS := hid (show Lv w4 g m dep mx X (j + 1) w8 (ls ++ [L]) (some q) from by have := HST.out; simpa using this)
            clear HST HLVE hlvl
            go_upto_region 20 with fail
            rw [← hw8]
            clear hw8
            go_wp2_with fail
            go_roundg (m - (j + 1))
            case measure => rw [HGH.out]; omega
            case rel => exact ⟨j + 1, _, some q, rfl, by go_num, by omega, HS.out, rfl⟩
          | none =>
            simp only [ptrOf]
            have HS := hid (show Lv w4 g m dep mx X (j + 1) w8 (ls ++ [L]) none from by have := HST.out; simpa using this)
            clear HST HLVE hlvl
            go_upto_region 20 with fail
            rw [← hw8]
            clear hw8
            go_wp2_with fail
            go_roundg (m - (j + 1))
            case measure => rw [HGH.out]; omega
            case rel => exact ⟨j + 1, _, none, rfl, by go_num, by omega, HS.out, rfl⟩
        | true =>
          obtain rfl : L = y + 1 := by rw [HLVE.out, hlvl]; simp [one]
          cases ws with
          | some q =>
            simp only [ptrOf]
            have HS := hid (show Lv w4 g m dep mx X (j + 1) w8 (ls ++ [y + 1]) (some q) from by have := HST.out; simpa using this)
            clear HST HLVE hlvl
            go_upto_region 20 with fail
            rw [← hw8]
            clear hw8
            go_wp2_with fail
            go_roundg (m - (j + 1))
            case measure => rw [HGH.out]; omega
            case rel => exact ⟨j + 1, _, some q, rfl, by go_num, by omega, HS.out, rfl⟩
          | none =>
            simp only [ptrOf]
            by_cases hcmp : mx < dep + (y + 1)
            · have HS := hid (show Lv w4 g m dep mx X (j + 1) w8 (ls ++ [y + 1]) (some j) from by have := HST.out; simpa [hcmp] using this)
              clear HST HLVE hlvl
              go_upto_region 20 with fail
              rw [← hw8]
              clear hw8
              go_wp2_with fail
              go_roundg (m - (j + 1))
              case measure => rw [HGH.out]; omega
              case rel => exact ⟨j + 1, _, some j, by simp only [ptrOf]; rw [HNB.out], by go_num, by omega, HS.out, rfl⟩
            · have HS := hid (show Lv w4 g m dep mx X (j + 1) w8 (ls ++ [y + 1]) none from by have := HST.out; simpa [hcmp] using this)
              clear HST HLVE hlvl
              go_upto_region 20 with fail
              rw [← hw8]
              clear hw8
              go_wp2_with fail
              go_roundg (m - (j + 1))
              case measure => rw [HGH.out]; omega
              case rel => exact ⟨j + 1, _, none, rfl, by go_num, by omega, HS.out, rfl⟩
    · obtain rfl : j = m := by omega
      have hws : ws = td mx (n + 1) t dep 0 := Lv.last (by have := HL.out; rwa [HX.out] at this) (by rw [← HX.out]; exact HM.out)
      have hn1 := HC.out N 0 _ (by omega) HA.out.c1
      have hGr : GAt (fun _ => True) (wr.alloc (.cells #[.slice none 0 0, .int .i64 0, .int .i64 0, .int .i64 0, .int .i64 mx, .map none] 49)) A (n + 1) t (.pointer pv) 0 := by
        refine GAt.carry ?_ (fun _ _ e => e) _ _ _ _ HG.out
        rintro q ⟨hq, _⟩
        have hq1 : q < g := by rw [HG0.out]; exact hq.2.1
        refine ⟨trivial, (Below.heap_alloc _ _ _ ?_).trans (HL.out.below.block q hq1)⟩
        have := HL.out.below.size
        have := HG0.out
        omega
      have G3 := hid (shim_any _ A wr.heap.size mx (n + 1) t pv 0 dep _ hGr (by simp) hd (by omega) (by omega))
      have HBF : Hid (Below w.heap.size w (wr.alloc (.cells #[.slice none 0 0, .int .i64 0, .int .i64 0, .int .i64 0, .int .i64 mx, .map none] 49))) := by
        refine Below.alloc ?_ ?_ _
        · exact HB4.out.trans (HL.out.below.mono (by omega))
        · have := HL.out.below.size
          have := HG0.out
          omega
      rw [hws]
      generalize td mx (n + 1) t dep 0 = R at G3
      have heq : ∀ (x : Addr) (W : World), (binOp .eql 35 (.pointer (some x)) (.pointer (some x))).run Try.prog W = .ok (.bool true) W := by
        obtain ⟨i54, hi54⟩ : ∃ i, Try.prog.info? 54 = some i := Option.isSome_iff_exists.1 (by kernel_rfl)
        exact fun x W => run_eql_ptr_same W x Try.underlying35 hi54
      clear hGr hws
      go_wp2_with fail
      refine (Base.newParser_any none 0 0 0 0 0 mx wr).mono ?_
      rintro e w6 ⟨rfl, rfl⟩
      go_wp2_with fail
      refine G3.out.mono ?_
      rintro e w7 ⟨rfl, rfl⟩
      cases R with
      | none =>
        simp only [ptrOf]
        go_wp2_with fail
        go_ret
        exact ⟨rfl, HBF.out⟩
      | some q =>
        simp only [ptrOf]
        go_wp2_with fail
        go_ret
        exact ⟨rfl, HBF.out⟩
end Go.Proofs.Qxb6617969a.Deep
