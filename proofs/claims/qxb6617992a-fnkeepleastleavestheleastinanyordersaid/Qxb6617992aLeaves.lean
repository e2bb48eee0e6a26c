import Derived.Test.Qxb6617992aKeep
import Derived.RegionTactic
import Derived.BigRegion
namespace Go.Proofs.Qxb6617992a.Keep
open Go.RowKit Go.Maps

/-- The map that the first k keys and values make, and its size. -/
def fill (K : Nat → ByteArray) (V : Nat → Int) : Nat → Tab
  | 0 => fun _ => none
  | k + 1 => upd (fill K V k) (key (K k)) (V k)
def fillSz (K : Nat → ByteArray) (V : Nat → Int) : Nat → Nat
  | 0 => 0
  | k + 1 => grow (fill K V k) (key (K k)) (fillSz K V k)

theorem fill_some (K : Nat → ByteArray) (V : Nat → Int) : ∀ (n k : Nat), k < n → ((fill K V n) (key (K k))).isSome = true
  | 0, k, h => by omega
  | n + 1, k, h => by
    unfold fill upd
    split
    · rfl
    · rename_i hne
      by_cases hk : k = n
      · subst hk; exact absurd rfl hne
      · exact fill_some K V n k (by omega)

/-- The least of x, y and what there was. -/
def wantV (o : Option Int) (x y : Int) : Int := if o.isSome && decide (o.getD 0 < (if y < x then y else x)) then o.getD 0 else if y < x then y else x

theorem kl_other (M : Tab) (p q : Key) (v : Int) (h : q ≠ p) : kl M p v q = M q := by
  unfold kl
  cases M p with
  | none => simp [upd, h]
  | some u =>
    simp only
    split <;> simp [upd, h]
theorem kl_same (M : Tab) (p : Key) (v : Int) : kl M p v p = some (match M p with | none => v | some u => if v < u then v else u) := by
  unfold kl
  cases hM : M p with
  | none => simp [upd]
  | some u =>
    simp only
    split
    · simp [upd]
    · exact hM
theorem kl_two (M : Tab) (p : Key) (x y : Int) : kl (kl M p x) p y p = some (wantV (M p) x y) ∧ kl (kl M p y) p x p = some (wantV (M p) x y) := by
  rw [kl_same, kl_same, kl_same, kl_same]
  unfold wantV
  cases M p with
  | none =>
    simp
    split <;> split <;> omega
  | some u =>
    simp
    constructor
    · repeat' split
      all_goals omega
    · repeat' split
      all_goals omega
theorem grow_two (M : Tab) (p : Key) (v : Int) (z : Nat) : grow (kl M p v) p (grow M p z) = grow M p z := by
  unfold grow
  rw [kl_same]; rfl

theorem make_hint {t k e : TypeId} (h : Try.prog.underlying t = some (.map k e)) (W : World) (q : IntKind) (n : Int) : (Instr.makeMap t (some (.int q n))).run Try.prog W = .ok (.map (some W.heap.size)) (W.alloc (.map #[] 0)) := by
  simp [Instr.makeMap, run_underlying h, asInt, asIntOf]

set_option maxRecDepth 100000 in
set_option maxHeartbeats 4000000 in
theorem leaves_main (ak : Option Addr) (lk ck : Nat) (K : Nat → ByteArray) (av : Option Addr) (lv cv : Nat) (V : Nat → Int) (s : ByteArray) (x y : Int) (w : World)
    (hk : lk ≤ 4096) (hv : lv ≤ 4096) (hs : s.size ≤ 1048576) (hroom : 0 ≤ (1048576 - (s.size : Int) - 8 * lv)) (HK : Strs w ak lk K) (HV : Nums w av lv V)
    (hx : (Lit.int .i64 x).wf = true) (hy : (Lit.int .i64 y).wf = true) :
    Calls Try.prog 3 #[.slice ak lk ck, .slice av lv cv, .string s, .int .i64 x, .int .i64 y] w fun e w' => e = .returned (.bool true) ∧ Below w.heap.size w w' := by
  have HK' := hid HK; have HV' := hid HV
  have hmm := make_hint Try.underlying27
  have G6 := hid (zzBytes6_any ak lk ck K av lv cv s x y w (by unfold maxLen; omega) HK)
  have G7 := hid (spend_any ak lk ck K (1048576 - (s.size : Int) - 8 * lv) w (by omega) HK)
  clear HK HV
  go_enter Try.func3, Try.ntmps3
  go_wp2_with fail
  refine G6.out.mono ?_
  rintro e w1 ⟨⟨r, rfl⟩, rfl⟩
  cases r
  · go_wp2_with fail
    go_ret
    exact ⟨rfl, Below.refl _ _⟩
  go_wp2_with fail
  refine G7.out.mono ?_
  rintro e w2 ⟨⟨r, rfl⟩, rfl⟩
  by_cases hr : r < 0
  · go_wp2_with fail
    go_ret
    exact ⟨rfl, Below.refl _ _⟩
  go_wp2_with fail
  refine (min_any lk lv _).mono ?_
  rintro e w3 ⟨rfl, rfl⟩
  obtain ⟨n, hn⟩ : ∃ n, n = min lk lv := ⟨_, rfl⟩
  have hn1 : n ≤ lk := by omega
  have hn2 : n ≤ lv := by omega
  rw [← hn]
  clear hn G6 G7
  go_upto_block 0 with fail
  clear hmm
  go_cut [16] (fun _ wz => IMap wz w3.heap.size n (fill K V n) (fillSz K V n) ∧ IMap wz (w3.heap.size + 1) n (fill K V n) (fillSz K V n) ∧ IMap wz (w3.heap.size + 1 + 1) n (fill K V n) (fillSz K V n) ∧ Below w3.heap.size w3 wz)
  case first =>
    as_aux_lemma =>
      go_wp2_with fail
      go_loopg [16] n (fun g j wr => ∃ k : Nat, j = .int .i64 k ∧ k ≤ n ∧ IMap wr w3.heap.size k (fill K V k) (fillSz K V k) ∧ IMap wr (w3.heap.size + 1) k (fill K V k) (fillSz K V k) ∧ IMap wr (w3.heap.size + 1 + 1) k (fill K V k) (fillSz K V k) ∧ Below w3.heap.size w3 wr ∧ g = n - k)
      case atStart =>
        refine ⟨0, rfl, Nat.zero_le _, ?_, ?_, ?_, ?_, rfl⟩
        · exact ((IMap.made w3).alloc _).alloc _
        · have := (IMap.made (w3.alloc (.map #[] 0))).alloc (.map #[] 0)
          simp only [World.size_alloc] at this
          exact this
        · have := IMap.made ((w3.alloc (.map #[] 0)).alloc (.map #[] 0))
          simp only [World.size_alloc] at this
          exact this
        · exact (((Below.refl _ _).alloc (Nat.le_refl _) _).alloc (by simp) _).alloc (by simp; omega) _
      case round =>
        obtain ⟨k, rfl, hkn, i0, i1, i2, hb, hg⟩ := hrel
        have HB := hid hb; have HG := hid hg
        clear hb hg
        by_cases hlt : k < n
        · obtain ⟨b, o, rfl, hc, hks⟩ := (HK'.out.below HB.out) k (by omega)
          obtain ⟨b', o', rfl, hc', hvs⟩ := (HV'.out.below HB.out) k (by omega)
          obtain ⟨wa, r1, ia, ga⟩ := i0.drew.store (by unfold maxLen; omega) hks hvs
          have hba : Below w3.heap.size w3 wa := (below_drewN HB.out 1).grown ga HB.out.size (by intro j hj; cases hj; exact Nat.le_refl _)
          have i1a := i1.drew.kept ga (by simp)
          have i2a := i2.drew.kept ga (by simp; omega)
          have HBA := hid hba; have IA := hid ia; have I2A := hid i2a; have I1A := hid i1a
          clear hba ia ga i0 i1 i2 i1a i2a
          go_wp2_with fail
          go_region
          clear r1 hc hc'
          obtain ⟨b2, o2, e2, hc, _⟩ := (HK'.out.below HBA.out) k (by omega)
          simp only [Option.some.injEq, Addr.mk.injEq] at e2
          obtain ⟨rfl, rfl, -⟩ := e2
          obtain ⟨b2, o2, e2, hc', _⟩ := (HV'.out.below HBA.out) k (by omega)
          simp only [Option.some.injEq, Addr.mk.injEq] at e2
          obtain ⟨rfl, rfl, -⟩ := e2
          obtain ⟨wb, r2, ib, gb⟩ := I1A.out.drew.store (by unfold maxLen; omega) hks hvs
          have hbb : Below w3.heap.size w3 wb := (below_drewN HBA.out 1).grown gb HBA.out.size (by intro j hj; cases hj; exact Nat.le_succ _)
          have i0b := IA.out.drew.kept gb (by simp)
          have i2b := I2A.out.drew.kept gb (by simp)
          have HBB := hid hbb; have IB := hid ib; have I2B := hid i2b; have I0B := hid i0b
          clear hbb ib gb i0b i2b
          go_wp2_with fail
          go_region
          clear r2 hc hc'
          obtain ⟨b2, o2, e2, hc, _⟩ := (HK'.out.below HBB.out) k (by omega)
          simp only [Option.some.injEq, Addr.mk.injEq] at e2
          obtain ⟨rfl, rfl, -⟩ := e2
          obtain ⟨b2, o2, e2, hc', _⟩ := (HV'.out.below HBB.out) k (by omega)
          simp only [Option.some.injEq, Addr.mk.injEq] at e2
          obtain ⟨rfl, rfl, -⟩ := e2
          obtain ⟨wd, r3, id, gd⟩ := I2B.out.drew.store (by unfold maxLen; omega) hks hvs
          have hbd : Below w3.heap.size w3 wd := (below_drewN HBB.out 1).grown gd HBB.out.size (by intro j hj; cases hj; omega)
          have i0d := I0B.out.drew.kept gd (by simp; omega)
          have i1d := IB.out.drew.kept gd (by simp)
          have HBD := hid hbd; have ID := hid id; have I0D := hid i0d; have I1D := hid i1d
          clear hbd id gd i0d i1d
          go_wp2_with fail
          go_region
          go_wp2_with fail
          go_roundg (n - (k + 1))
          case measure => rw [HG.out]; omega
          case rel => exact ⟨k + 1, by go_num, by omega, I0D.out, I1D.out, ID.out, HBD.out, rfl⟩
        · obtain rfl : k = n := by omega
          go_wp2_with fail
          go_meet
          case rel => exact ⟨i0, i1, i2, HB.out⟩
  case rest =>
    as_aux_lemma =>
      obtain ⟨i0, i1, i2, hb⟩ := hcut
      obtain ⟨M, hM⟩ : ∃ M, M = fill K V n := ⟨_, rfl⟩
      obtain ⟨z, hz⟩ : ∃ z, z = fillSz K V n := ⟨_, rfl⟩
      have HF : Hid (∀ k, k < n → (M (key (K k))).isSome = true) := by intro k hk; rw [hM]; exact fill_some K V n k hk
      rw [← hM, ← hz] at i0 i1 i2
      clear hM hz
      have hzn := i0.size_le
      have hsm : s.size ≤ maxLen := by unfold maxLen; omega
      have hlb := i0.look hsm
      have HB := hid hb; have I0 := hid i0; have I1 := hid i1; have I2 := hid i2
      clear hb i0 i1 i2
      go_wp2_with fail
      clear hlb
      refine (zzKeep_any _ _ _ _ _ _ _ I1.out (by unfold maxLen; omega) hsm hx).mono ?_
      rintro e wa ⟨rfl, i1, ga⟩
      have i0 := I0.out.kept ga (by simp)
      have i2 := I2.out.kept ga (by simp)
      have hb : Below w3.heap.size w3 wa := HB.out.grown ga HB.out.size (by intro j hj; cases hj; omega)
      have HBA := hid hb; have I0A := hid i0; have I1A := hid i1; have I2A := hid i2
      clear hb i0 i1 i2 ga
      go_wp2_with fail
      refine (zzKeep_any _ _ _ _ _ _ _ I1A.out (by unfold maxLen; omega) hsm hy).mono ?_
      rintro e wb ⟨rfl, i1, ga⟩
      have i0 := I0A.out.kept ga (by simp)
      have i2 := I2A.out.kept ga (by simp)
      have hb : Below w3.heap.size w3 wb := HBA.out.grown ga HBA.out.size (by intro j hj; cases hj; omega)
      have HBB := hid hb; have I0B := hid i0; have I1B := hid i1; have I2B := hid i2
      clear hb i0 i1 i2 ga
      go_wp2_with fail
      refine (zzKeep_any _ _ _ _ _ _ _ I2B.out (by unfold maxLen; omega) hsm hy).mono ?_
      rintro e wd ⟨rfl, i2, ga⟩
      have i0 := I0B.out.kept ga (by simp; omega)
      have i1 := I1B.out.kept ga (by simp)
      have hb : Below w3.heap.size w3 wd := HBB.out.grown ga HBB.out.size (by intro j hj; cases hj; omega)
      have HBD := hid hb; have I0D := hid i0; have I1D := hid i1; have I2D := hid i2
      clear hb i0 i1 i2 ga
      go_wp2_with fail
      refine (zzKeep_any _ _ _ _ _ _ _ I2D.out (by unfold maxLen; omega) hsm hx).mono ?_
      rintro e we ⟨rfl, i2, ga⟩
      have i0 := I0D.out.kept ga (by simp; omega)
      have i1 := I1D.out.kept ga (by simp)
      have hb : Below w3.heap.size w3 we := HBD.out.grown ga HBD.out.size (by intro j hj; cases hj; omega)
      rw [grow_two] at i1 i2
      have HBE := hid hb; have I0E := hid i0; have I1E := hid i1; have I2E := hid i2
      clear hb i0 i1 i2 ga HBD I0D I1D I2D HBB I0B I1B I2B HBA I0A I1A I2A HB I0 I1 I2
      have hkt := kl_two M (key s) x y
      obtain ⟨op, hop⟩ : ∃ op, op = M (key s) := ⟨_, rfl⟩
      have HGR : Hid (grow M (key s) z = if op.isSome then z else z + 1) := by show _ = _; unfold grow; rw [hop]
      rw [← hop] at hkt ⊢
      clear hop
      obtain ⟨u, hu⟩ : ∃ u, u = if y < x then y else x := ⟨_, rfl⟩
      obtain ⟨t, ht⟩ : ∃ t, t = wantV op x y := ⟨_, rfl⟩
      have HT : Hid (t = if op.isSome && decide (op.getD 0 < u) then op.getD 0 else u) := by show _ = _; rw [ht, hu]; rfl
      rw [← ht] at hkt
      have HU := hid hu; have HKT := hid hkt
      clear hu ht hkt
      go_upto_if 132 with fail
      go_cut [19, 132] (fun v _ wz => v = .int .i64 u ∧ we = wz)
      case first =>
        as_aux_lemma =>
          by_cases hyx : y < x
          · have HUE : Hid (u = y) := by show _ = _; rw [HU.out, if_pos hyx]
            go_wp2_with fail
            go_meet
            case rel => exact ⟨by rw [HUE.out], rfl⟩
          · have HUE : Hid (u = x) := by show _ = _; rw [HU.out, if_neg hyx]
            go_wp2_with fail
            go_meet
            case rel => exact ⟨by rw [HUE.out], rfl⟩
      case rest =>
        as_aux_lemma =>
          obtain ⟨rfl, rfl⟩ := hcut
          go_upto_region 28 with fail
          go_cut [139] (fun v wz => v = .bool (op.isSome && decide (op.getD 0 < u)) ∧ we = wz)
          case first =>
            as_aux_lemma =>
              cases op with
              | none =>
                simp only [Option.isSome_none, Option.getD_none]
                go_wp2_with fail
                go_meet
                case rel => exact ⟨rfl, rfl⟩
              | some q =>
                simp only [Option.isSome_some, Option.getD_some]
                go_wp2_with fail
                go_meet
                case rel => exact ⟨rfl, rfl⟩
          case rest =>
            as_aux_lemma =>
              obtain ⟨rfl, rfl⟩ := hcut
              go_upto_if 139 with fail
              go_cut [19, 139] (fun v _ wz => v = .int .i64 t ∧ we = wz)
              case first =>
                as_aux_lemma =>
                  cases hc : (op.isSome && decide (op.getD 0 < u))
                  · have HTE : Hid (t = u) := by show _ = _; rw [HT.out, hc]; rfl
                    clear hc
                    go_wp2_with fail
                    go_meet
                    case rel => exact ⟨by rw [HTE.out], rfl⟩
                  · have HTE : Hid (t = op.getD 0) := by show _ = _; rw [HT.out, hc]; rfl
                    clear hc
                    go_wp2_with fail
                    go_meet
                    case rel => exact ⟨by rw [HTE.out], rfl⟩
              case rest =>
                as_aux_lemma =>
                  obtain ⟨rfl, rfl⟩ := hcut
                  have hlen0 := fun ty => I0E.out.len ty
                  go_upto_if 144 with fail
                  clear hlen0
                  go_cut [20, 144] (fun v _ wz => v = .int .i64 (grow M (key s) z) ∧ we = wz)
                  case first =>
                    as_aux_lemma =>
                      cases op with
                      | none =>
                        simp only [Option.isSome_none]
                        have HGE : Hid (grow M (key s) z = z + 1) := HGR.out
                        go_wp2_with fail
                        go_meet
                        case rel => exact ⟨by rw [HGE.out]; go_num, rfl⟩
                      | some q =>
                        simp only [Option.isSome_some]
                        have HGE : Hid (grow M (key s) z = z) := HGR.out
                        go_wp2_with fail
                        go_meet
                        case rel => exact ⟨by rw [HGE.out], rfl⟩
                  case rest =>
                    as_aux_lemma =>
                      obtain ⟨rfl, rfl⟩ := hcut
                      have hl1 := fun ty => I1E.out.len ty
                      have hl2 := fun ty => I2E.out.len ty
                      have hv1 := I1E.out.look hsm
                      have hv2 := I2E.out.look hsm
                      rw [HKT.out.1] at hv1
                      rw [HKT.out.2] at hv2
                      simp only [Option.getD_some, Option.isSome_some] at hv1 hv2
                      generalize grow M (key s) z = zz at hl1 hl2
                      go_wp2_with fail
                      clear hl1 hl2 hv1 hv2
                      go_loopg [25] n (fun g j w4 => ∃ k : Nat, j = .int .i64 k ∧ we = w4 ∧ k ≤ n ∧ g = n - k)
                      case atStart => exact ⟨0, rfl, rfl, Nat.zero_le _, rfl⟩
                      case round =>
                        obtain ⟨k, rfl, rfl, hkn, hg⟩ := hrel
                        have HG := hid hg
                        clear hg
                        by_cases hlt : k < n
                        · obtain ⟨b, o, rfl, hc, hks⟩ := (HK'.out.below HBE.out) k (by omega)
                          have hf := HF.out k hlt
                          generalize K k = sk at hc hks hf
                          by_cases heq : key sk = key s
                          · have he : (sk.toList == s.toList) = true := by
                              rw [ByteArray.toList_eq, ByteArray.toList_eq]; simpa [key] using heq
                            clear heq hf
                            go_wp2_with fail
                            go_roundg (n - (k + 1))
                            case measure => rw [HG.out]; omega
                            case rel => exact ⟨k + 1, by go_num, rfl, by omega, rfl⟩
                          · have he : (sk.toList == s.toList) = false := by
                              rw [ByteArray.toList_eq, ByteArray.toList_eq]; simpa [key] using heq
                            have hv0 := I0E.out.look1 hks
                            have hv1 := I1E.out.look hks
                            have hv2 := I2E.out.look hks
                            rw [kl_other _ _ _ _ heq, kl_other _ _ _ _ heq] at hv1 hv2
                            cases hMk : M (key sk) with
                            | none => rw [hMk] at hf; cases hf
                            | some q =>
                              rw [hMk] at hv0 hv1 hv2
                              simp only [Option.getD_some, Option.isSome_some] at hv0 hv1 hv2
                              clear hMk hf heq
                              go_wp2_with fail
                              go_roundg (n - (k + 1))
                              case measure => rw [HG.out]; omega
                              case rel => exact ⟨k + 1, by go_num, rfl, by omega, rfl⟩
                        · go_wp2_with fail
                          go_ret
                          exact ⟨rfl, HBE.out⟩
end Go.Proofs.Qxb6617992a.Keep
