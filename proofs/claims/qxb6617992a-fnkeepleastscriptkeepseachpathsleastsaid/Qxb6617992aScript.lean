import Derived.Test.Qxb6617992aScriptLaw
import Derived.RegionTactic
import Derived.BigRegion
import Derived.Deep.RegionWith
namespace Go.Proofs.Qxb6617992a.Keep
open Go.RowKit Go.Maps

theorem make_hint' {t k e : TypeId} (h : Try.prog.underlying t = some (.map k e)) (W : World) (q : IntKind) (n : Int) : (Instr.makeMap t (some (.int q n))).run Try.prog W = .ok (.map (some W.heap.size)) (W.alloc (.map #[] 0)) := by
  simp [Instr.makeMap, run_underlying h, asInt, asIntOf]

set_option maxRecDepth 100000 in
set_option maxHeartbeats 8000000 in
theorem script_main (ak : Option Addr) (lk ck : Nat) (K : Nat → ByteArray) (av : Option Addr) (lv cv : Nat) (V : Nat → Int) (w : World)
    (hk : lk ≤ 4096) (hv : lv ≤ 4096) (HK : Strs w ak lk K) (HV : Nums w av lv V) :
    Calls Try.prog 4 #[.slice ak lk ck, .slice av lv cv] w fun e w' => e = .returned (.bool true) ∧ Below w.heap.size w w' := by
  have HK' := hid HK; have HV' := hid HV
  have hmm := make_hint' Try.underlying27
  have hmb := make_hint' Try.underlying31
  have G6 := hid (zzBytes10_any ak lk ck K av lv cv w (by unfold maxLen; omega) HK)
  have G7 := hid (spend_any ak lk ck K (1048576 - 8 * (lv : Int)) w (by omega) HK)
  clear HK HV
  go_enter Try.func4, Try.ntmps4
  go_wp2_with fail
  refine G6.out.mono ?_
  rintro e w1 ⟨⟨r, rfl⟩, rfl⟩
  cases r
  · go_wp2_with fail
    go_ret
    exact ⟨rfl, Below.refl _ _⟩
  go_wp2_with fail
  refine G7.out.mono ?_
  rintro e w2 ⟨⟨r, rfl⟩, rfl⟩
  by_cases hr : r < 0
  · go_wp2_with fail
    go_ret
    exact ⟨rfl, Below.refl _ _⟩
  go_wp2_with fail
  refine (min_any lk lv _).mono ?_
  rintro e w3 ⟨rfl, rfl⟩
  obtain ⟨n, hn⟩ : ∃ n, n = min lk lv := ⟨_, rfl⟩
  have hn1 : n ≤ lk := by omega
  have hn2 : n ≤ lv := by omega
  rw [← hn]
  clear hn G6 G7
  go_upto_block 0 with fail
  clear hmm
  go_cut [9] (fun _ wz => IMap wz w3.heap.size n (ml (fwdL K V n)) (msz (fwdL K V n)) ∧ IMap wz (w3.heap.size + 1) 0 (ml []) 0 ∧ Below w3.heap.size w3 wz ∧ w3.heap.size + 1 < wz.heap.size)
  case first =>
    focus
      go_wp2_with fail
      go_loopg [9] n (fun g j wr => ∃ k : Nat, j = .int .i64 k ∧ k ≤ n ∧ IMap wr w3.heap.size k (ml (fwdL K V k)) (msz (fwdL K V k)) ∧ IMap wr (w3.heap.size + 1) 0 (ml []) 0 ∧ Below w3.heap.size w3 wr ∧ w3.heap.size + 1 < wr.heap.size ∧ g = n - k)
      case atStart =>
        refine ⟨0, rfl, Nat.zero_le _, ?_, ?_, ?_, ?_, rfl⟩
        · exact (IMap.made w3).alloc _
        · have := IMap.made (w3.alloc (.map #[] 0))
          simp only [World.size_alloc] at this
          exact this
        · exact ((Below.refl _ _).alloc (Nat.le_refl _) _).alloc (by simp) _
        · simp
      case round =>
        obtain ⟨k, rfl, hkn, i0, i1, hb, hsz, hg⟩ := hrel
        have HB := hid hb; have HG := hid hg; have I0 := hid i0; have I1 := hid i1
        clear hb hg i0 i1
        by_cases hlt : k < n
        · obtain ⟨b, o, rfl, hc, hks⟩ := (HK'.out.below HB.out) k (by omega)
          obtain ⟨b', o', rfl, hc', hvs⟩ := (HV'.out.below HB.out) k (by omega)
          have GK : Hid (∀ m, Calls Try.prog 9 #[.map (some w3.heap.size), .string (K k), .int .i64 (V k)] (wr.drewN m) fun e w' => e = .returned (.tuple #[]) ∧ IMap w' w3.heap.size (k + 1) (ml (fwdL K V (k + 1))) (msz (fwdL K V (k + 1))) ∧ IMap w' (w3.heap.size + 1) 0 (ml []) 0 ∧ Below w3.heap.size w3 w' ∧ w3.heap.size + 1 < w'.heap.size) := by
            intro m
            refine (zzKeep_any w3.heap.size k _ _ (K k) (V k) (wr.drewN m) (I0.out.drewN m) (by unfold maxLen; omega) hks hvs).mono ?_
            rintro e w4 ⟨rfl, i2, g2⟩
            exact ⟨rfl, i2, (I1.out.drewN m).kept g2 (by simp), (below_drewN HB.out m).grown g2 HB.out.size (by intro j hj; cases hj; exact Nat.le_refl _), Nat.lt_of_lt_of_le hsz g2.size⟩
          go_wp2_with fail
          go_region_with (go_at_call 9; refine (GK.out 1).mono ?_; rintro e w4 ⟨rfl, hp⟩)
          all_goals
            have HP := hid hp
            clear hp
            go_wp2_with fail
            go_roundg (n - (k + 1))
            case measure => rw [HG.out]; omega
            case rel => exact ⟨k + 1, by go_num, by omega, HP.out.1, HP.out.2.1, HP.out.2.2.1, HP.out.2.2.2, rfl⟩
        · obtain rfl : k = n := by omega
          go_wp2_with fail
          go_meet
          case rel => exact ⟨I0.out, I1.out, HB.out, hsz⟩
  case rest =>
    focus
      obtain ⟨i0, i1, hb, hsz⟩ := hcut
      have HB := hid hb; have I0 := hid i0; have I1 := hid i1
      clear hb i0 i1
      go_upto_block 2 with fail
      go_cut [10] (fun _ wz => IMap wz w3.heap.size n (ml (fwdL K V n)) (msz (fwdL K V n)) ∧ IMap wz (w3.heap.size + 1) n (ml (revL K V n n)) (msz (revL K V n n)) ∧ Below w3.heap.size w3 wz ∧ w3.heap.size + 1 < wz.heap.size)
      case first =>
        focus
          go_wp2_with fail
          go_loopg [10] n (fun g j wr => ∃ d : Nat, j = .int .i64 ((n : Int) - d - 1) ∧ d ≤ n ∧ IMap wr w3.heap.size n (ml (fwdL K V n)) (msz (fwdL K V n)) ∧ IMap wr (w3.heap.size + 1) d (ml (revL K V n d)) (msz (revL K V n d)) ∧ Below w3.heap.size w3 wr ∧ w3.heap.size + 1 < wr.heap.size ∧ g = n - d)
          case atStart => exact ⟨0, congrArg (Value.int .i64) (by omega), Nat.zero_le _, I0.out, I1.out, HB.out, hsz, rfl⟩
          case round =>
            obtain ⟨d, rfl, hdn, i0, i1, hb, hszr, hg⟩ := hrel
            have HBr := hid hb; have HG := hid hg; have I0r := hid i0; have I1r := hid i1
            clear hb hg i0 i1
            by_cases hlt : d < n
            · obtain ⟨i, hi⟩ : ∃ i : Nat, i = n - (d + 1) := ⟨_, rfl⟩
              have hi' : (n : Int) - d - 1 = (i : Int) := by omega
              have HI := hid hi
              rw [hi']
              obtain ⟨b, o, rfl, hc, hks⟩ := (HK'.out.below HBr.out) i (by omega)
              obtain ⟨b', o', rfl, hc', hvs⟩ := (HV'.out.below HBr.out) i (by omega)
              have GK : Hid (∀ m, Calls Try.prog 9 #[.map (some (w3.heap.size + 1)), .string (K i), .int .i64 (V i)] (wr.drewN m) fun e w' => e = .returned (.tuple #[]) ∧ IMap w' w3.heap.size n (ml (fwdL K V n)) (msz (fwdL K V n)) ∧ IMap w' (w3.heap.size + 1) (d + 1) (ml (revL K V n (d + 1))) (msz (revL K V n (d + 1))) ∧ Below w3.heap.size w3 w' ∧ w3.heap.size + 1 < w'.heap.size) := by
                intro m
                refine (zzKeep_any (w3.heap.size + 1) d _ _ (K i) (V i) (wr.drewN m) (I1r.out.drewN m) (by unfold maxLen; omega) hks hvs).mono ?_
                rintro e w4 ⟨rfl, i2, g2⟩
                exact ⟨rfl, (I0r.out.drewN m).kept g2 (by simp), by unfold revL; rw [← HI.out]; exact i2, (below_drewN HBr.out m).grown g2 HBr.out.size (by intro j hj; cases hj; omega), Nat.lt_of_lt_of_le hszr g2.size⟩
              have hib : (i : Int) ≤ 4096 := by omega
              have hik : i < lk := by omega
              have hiv : i < lv := by omega
              clear hi hi'
              go_wp2_with fail
              go_region_with (go_at_call 9; refine (GK.out 1).mono ?_; rintro e w4 ⟨rfl, hp⟩)
              all_goals
                have HP := hid hp
                clear hp
                go_wp2_with fail
                go_roundg (n - (d + 1))
                case measure => rw [HG.out]; omega
                case rel => exact ⟨d + 1, congrArg (Value.int .i64) (by have := HI.out; omega), by omega, HP.out.1, HP.out.2.1, HP.out.2.2.1, HP.out.2.2.2, rfl⟩
            · obtain rfl : d = n := by omega
              go_wp2_with fail
              go_meet
              case rel => exact ⟨I0r.out, I1r.out, HBr.out, hszr⟩
      case rest =>
        focus
          obtain ⟨i0, i1, hb, hsz'⟩ := hcut
          have hev : msz (revL K V n n) = card ((fwdL K V n).map Prod.fst) := by rw [rev_sz, msz_card]
          rw [hev] at i1
          rw [msz_card] at i0
          have HBz := hid hb; have I0z := hid i0; have I1z := hid i1
          clear hb i0 i1 hev HB I0 I1 hsz
          obtain ⟨wx, rfl⟩ : ∃ wx : World, wx = wc := ⟨_, rfl⟩
          go_upto_block 4 with fail
          go_cut [12] (fun _ wz => IMap wz w3.heap.size n (ml (fwdL K V n)) (card ((fwdL K V n).map Prod.fst)) ∧ IMap wz (w3.heap.size + 1) n (ml (revL K V n n)) (card ((fwdL K V n).map Prod.fst)) ∧ BMap wz wx.heap.size n ((fwdL K V n).map Prod.fst) ∧ Below w3.heap.size w3 wz ∧ wx.heap.size < wz.heap.size)
          case first =>
            focus
              go_wp2_with fail
              go_loopg [12] n (fun g j wr => ∃ k : Nat, j = .int .i64 k ∧ k ≤ n ∧ IMap wr w3.heap.size n (ml (fwdL K V n)) (card ((fwdL K V n).map Prod.fst)) ∧ IMap wr (w3.heap.size + 1) n (ml (revL K V n n)) (card ((fwdL K V n).map Prod.fst)) ∧ BMap wr wx.heap.size k ((fwdL K V k).map Prod.fst) ∧ Below w3.heap.size w3 wr ∧ wx.heap.size < wr.heap.size ∧ g = n - k)
              case atStart => exact ⟨0, rfl, Nat.zero_le _, I0z.out.alloc _, I1z.out.alloc _, BMap.made wx, HBz.out.alloc HBz.out.size _, by simp, rfl⟩
              case round =>
                obtain ⟨k, rfl, hkn, i0, i1, bd, hb, hszr, hg⟩ := hrel
                have HG := hid hg; have HBr := hid hb
                clear hg hb
                by_cases hlt : k < n
                · obtain ⟨b, o, rfl, hc, hks⟩ := (HK'.out.below HBr.out) k (by omega)
                  obtain ⟨w4, r4, bd4, g4⟩ := bd.store (by unfold maxLen; omega) hks
                  have i04 := i0.kept g4 (by simp; omega)
                  have i14 := i1.kept g4 (by simp; omega)
                  have hb4 : Below w3.heap.size w3 w4 := HBr.out.grown g4 HBr.out.size (by intro j hj; cases hj; omega)
                  have hs4 : wx.heap.size < w4.heap.size := Nat.lt_of_lt_of_le hszr g4.size
                  have HB4 := hid hb4; have I04 := hid i04; have I14 := hid i14; have BD4 := hid bd4
                  clear hb4 i04 i14 bd4 g4 i0 i1 bd
                  go_wp2_with fail
                  go_roundg (n - (k + 1))
                  case measure => rw [HG.out]; omega
                  case rel => exact ⟨k + 1, by go_num, by omega, I04.out, I14.out, BD4.out, HB4.out, hs4, rfl⟩
                · obtain rfl : k = n := by omega
                  go_wp2_with fail
                  go_meet
                  case rel => exact ⟨i0, i1, bd, HBr.out, hszr⟩
          case rest =>
            focus
              obtain ⟨i0, i1, bd, hb, hszy⟩ := hcut
              have hl0 := fun ty => i0.len ty
              have hl1 := fun ty => i1.len ty
              have hl2 := fun ty => bd.len ty
              have HBy := hid hb; have I0y := hid i0; have I1y := hid i1; have BDy := hid bd
              clear hb i0 i1 bd HBz I0z I1z
              obtain ⟨wy, rfl⟩ : ∃ wy : World, wy = wc := ⟨_, rfl⟩
              go_upto_block 6 with fail
              clear hl0 hl1 hl2
              go_cut [14] (fun _ wz => ∃ H, BMap wz wx.heap.size n ((fwdL K V n).map Prod.fst) ∧ BMap wz wy.heap.size n H ∧ card H = card ((fwdL K V n).map Prod.fst) ∧ Below w3.heap.size w3 wz)
              case first =>
                focus
                  go_wp2_with fail
                  go_loopg [14] n (fun g j wr => ∃ (k : Nat) (H : List Key), j = .int .i64 k ∧ k ≤ n ∧ IMap wr w3.heap.size n (ml (fwdL K V n)) (card ((fwdL K V n).map Prod.fst)) ∧ IMap wr (w3.heap.size + 1) n (ml (revL K V n n)) (card ((fwdL K V n).map Prod.fst)) ∧ BMap wr wx.heap.size n ((fwdL K V n).map Prod.fst) ∧ BMap wr wy.heap.size k H ∧ (∀ q, q ∈ H ↔ ∃ i, i < k ∧ q = key (K i) ∧ ml (fwdL K V n) q = some (V i)) ∧ Below w3.heap.size w3 wr ∧ g = n - k)
                  case atStart =>
                    refine ⟨0, [], rfl, Nat.zero_le _, I0y.out.alloc _, I1y.out.alloc _, BDy.out.alloc _, BMap.made wy, ?_, HBy.out.alloc HBy.out.size _, rfl⟩
                    intro q
                    simp
                  case round =>
                    obtain ⟨k, H, rfl, hkn, i0, i1, bd, bh, hH, hb, hg⟩ := hrel
                    have HG := hid hg; have HBr := hid hb; have HH := hid hH
                    clear hg hb hH
                    by_cases hlt : k < n
                    · obtain ⟨b, o, rfl, hc, hks⟩ := (HK'.out.below HBr.out) k (by omega)
                      obtain ⟨b', o', rfl, hc', hvs⟩ := (HV'.out.below HBr.out) k (by omega)
                      obtain ⟨v, hv1, hv2⟩ := fwd_at K V n k hlt
                      have hl0 := i0.look hks
                      have hl1 := i1.look hks
                      rw [rev_ml, hv1] at hl1
                      rw [hv1] at hl0
                      simp only [Option.getD_some, Option.isSome_some] at hl0 hl1
                      obtain ⟨w4, r4, bh4, g4⟩ := bh.store (by unfold maxLen; omega) hks
                      have i04 := i0.kept g4 (by simp; omega)
                      have i14 := i1.kept g4 (by simp; omega)
                      have bd4 := bd.kept g4 (by simp; omega)
                      have hb4 : Below w3.heap.size w3 w4 := HBr.out.grown g4 HBr.out.size (by intro j hj; cases hj; exact HBy.out.size)
                      have HB4 := hid hb4; have I04 := hid i04; have I14 := hid i14; have BD4 := hid bd4; have BH4 := hid bh4
                      have I0r := hid i0; have I1r := hid i1; have BDr := hid bd; have BHr := hid bh; have HV1 := hid hv1
                      clear hb4 i04 i14 bd4 g4 bh4 i0 i1 bd bh hv1
                      obtain ⟨vk, hvk⟩ : ∃ vk, vk = V k := ⟨_, rfl⟩
                      rw [← hvk] at hc' hv2
                      have HVK := hid hvk
                      clear hvk
                      by_cases hvv : v = vk
                      · have hvb : (v == vk) = true := by simpa using hvv
                        have hvn : ¬ vk < v := by omega
                        have HVV := hid hvv
                        clear hvv
                        go_wp2_with fail
                        go_roundg (n - (k + 1))
                        case measure => rw [HG.out]; omega
                        case rel =>
                          refine ⟨k + 1, _, by go_num, by omega, I04.out, I14.out, BD4.out, BH4.out, ?_, HB4.out, rfl⟩
                          intro q
                          rw [List.mem_cons, HH.out]
                          constructor
                          · rintro (h | ⟨i, h1, h2, h3⟩)
                            · exact ⟨k, by omega, h, by rw [h, HV1.out, HVV.out, HVK.out]⟩
                            · exact ⟨i, by omega, h2, h3⟩
                          · rintro ⟨i, h1, h2, h3⟩
                            by_cases hik : i = k
                            · subst hik; exact .inl h2
                            · exact .inr ⟨i, by omega, h2, h3⟩
                      · have hvb : (v == vk) = false := by simpa using hvv
                        have hvn : ¬ vk < v := by omega
                        have HVV := hid hvv
                        clear hvv
                        go_wp2_with fail
                        go_roundg (n - (k + 1))
                        case measure => rw [HG.out]; omega
                        case rel =>
                          refine ⟨k + 1, H, by go_num, by omega, I0r.out, I1r.out, BDr.out, BHr.out.mono (Nat.le_succ _), ?_, HBr.out, rfl⟩
                          intro q
                          rw [HH.out]
                          constructor
                          · rintro ⟨i, h1, h2, h3⟩
                            exact ⟨i, by omega, h2, h3⟩
                          · rintro ⟨i, h1, h2, h3⟩
                            by_cases hik : i = k
                            · subst hik
                              rw [h2, HV1.out] at h3
                              have h4 := Option.some.inj h3
                              exact absurd (h4.trans HVK.out.symm) HVV.out
                            · exact ⟨i, by omega, h2, h3⟩
                    · obtain rfl : k = n := by omega
                      have HC := hid (hit_all K V k H HH.out)
                      go_wp2_with fail
                      go_meet
                      case rel => exact ⟨H, bd, bh, HC.out, HBr.out⟩
              case rest =>
                focus
                  obtain ⟨H, bd, bh, hcd, hb⟩ := hcut
                  have hl2 := fun ty => bd.len ty
                  have hl3 := fun ty => bh.len ty
                  rw [hcd] at hl3
                  have HBf := hid hb
                  clear bd bh hcd hb
                  generalize card ((fwdL K V n).map Prod.fst) = cc at hl2 hl3
                  go_wp2_with fail
                  go_ret
                  exact ⟨rfl, HBf.out⟩
end Go.Proofs.Qxb6617992a.Keep
