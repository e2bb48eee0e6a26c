import Derived.Test.Qxb6617969aTree
namespace Go.Proofs.Qxb6617969a.Deep
open Go.RowKit

/-- How many nodes the first i children make. -/
def offs (n : Nat) (kids : List (Tree n)) (i : Nat) : Nat := ((kids.take i).map (fun c => (ps n c 0 0).length)).sum
theorem offs_zero (n : Nat) (kids : List (Tree n)) : offs n kids 0 = 0 := by simp [offs]
theorem offs_succ (n : Nat) (kids : List (Tree n)) (i : Nat) (h : i < kids.length) : offs n kids (i + 1) = offs n kids i + (ps n (kids[i]'h) 0 0).length := by
  unfold offs
  rw [List.take_succ_eq_append_getElem h, List.map_append, List.sum_append]
  simp only [List.map_cons, List.map_nil, List.sum_cons, List.sum_nil, Nat.add_zero]

/-- The node graph of a tree, node me of those in A; all its blocks meet S. -/
def GAt (S : Nat → Prop) (w : World) (A : List Nat) : (n : Nat) → Tree n → Value → Nat → Prop
  | 0, _, _, _ => False
  | n + 1, (nl, k, kids), v, me => (nl = true ∧ v = .pointer none) ∨ (nl = false ∧ ∃ b, A[me]? = some b ∧ v = .pointer (some ⟨b, 0, none⟩) ∧ S b ∧ w.cell? ⟨b, 0, none⟩ = some (.int .u8 k) ∧
      ((kids = [] ∧ w.cell? ⟨b, 4, none⟩ = some (.slice none 0 0)) ∨ ∃ g, S g ∧ w.cell? ⟨b, 4, none⟩ = some (.slice (some ⟨g, 0, none⟩) kids.length kids.length) ∧
        ∀ i (h : i < kids.length), ∃ vi, w.cell? ⟨g, i, none⟩ = some vi ∧ GAt S w A n (kids[i]'h) vi (me + 1 + offs n kids i)))

theorem GAt_succ (S : Nat → Prop) (w : World) (A : List Nat) (n : Nat) (nl : Bool) (k : Int) (kids : List (Tree n)) (v : Value) (me : Nat) :
    GAt S w A (n + 1) (nl, k, kids) v me = ((nl = true ∧ v = .pointer none) ∨ (nl = false ∧ ∃ b, A[me]? = some b ∧ v = .pointer (some ⟨b, 0, none⟩) ∧ S b ∧ w.cell? ⟨b, 0, none⟩ = some (.int .u8 k) ∧
      ((kids = [] ∧ w.cell? ⟨b, 4, none⟩ = some (.slice none 0 0)) ∨ ∃ g, S g ∧ w.cell? ⟨b, 4, none⟩ = some (.slice (some ⟨g, 0, none⟩) kids.length kids.length) ∧
        ∀ i (h : i < kids.length), ∃ vi, w.cell? ⟨g, i, none⟩ = some vi ∧ GAt S w A n (kids[i]'h) vi (me + 1 + offs n kids i)))) := rfl

/-- Carried to another world, another list of nodes, another measure of what is safe. -/
theorem GAt.carry {S S' : Nat → Prop} {w w' : World} {A A' : List Nat} (hS : ∀ k, S k → S' k ∧ w'.heap[k]? = w.heap[k]?) (hA : ∀ (j b : Nat), A[j]? = some b → A'[j]? = some b) :
    ∀ (n : Nat) (t : Tree n) (v : Value) (me : Nat), GAt S w A n t v me → GAt S' w' A' n t v me
  | 0, _, _, _, h => h
  | n + 1, (nl, k, kids), v, me, h => by
    rw [GAt_succ] at h ⊢
    have hc : ∀ b, S b → ∀ o x, w.cell? ⟨b, o, none⟩ = some x → w'.cell? ⟨b, o, none⟩ = some x := fun b hb o x hx => (World.cell?_of_block (hS b hb).2).trans hx
    rcases h with h | ⟨h0, b, h1, h2, h3, h4, h5⟩
    · exact .inl h
    · refine .inr ⟨h0, b, hA _ _ h1, h2, (hS b h3).1, hc b h3 _ _ h4, ?_⟩
      rcases h5 with ⟨h5, h6⟩ | ⟨g, h5, h6, h7⟩
      · exact .inl ⟨h5, hc b h3 _ _ h6⟩
      · refine .inr ⟨g, (hS g h5).1, hc b h3 _ _ h6, fun i hi => ?_⟩
        obtain ⟨vi, h8, h9⟩ := h7 i hi
        exact ⟨vi, hc g h5 _ _ h8, GAt.carry hS hA n _ _ _ h9⟩

theorem GAt.ptr {S : Nat → Prop} {w : World} {A : List Nat} : ∀ (n : Nat) (t : Tree n) (v : Value) (me : Nat), GAt S w A n t v me → ∃ p, v = .pointer p
  | 0, _, _, _, h => h.elim
  | n + 1, (nl, k, kids), v, me, h => by
    rw [GAt_succ] at h
    rcases h with h | ⟨_, b, _, h2, _⟩
    · exact ⟨_, h.2⟩
    · exact ⟨_, h2⟩

/-- The pointer to node j. -/
def ptrOf (A : List Nat) : Option Nat → Option Addr
  | none => none
  | some j => some ⟨A.getD j 0, 0, none⟩

theorem isColl_any (k : Int) (w : World) : Calls Try.prog 23 #[.int .u8 k] w fun e w' => e = .returned (.bool (coll k)) ∧ w' = w := by
  cases h1 : (k == 1)
  · have e : coll k = (k == 2) := by simp [coll, h1]
    rw [e]
    clear e
    go_enter Try.func23, Try.ntmps23
    go_wp2
    go_ret
    exact ⟨rfl, rfl⟩
  · have e : coll k = true := by simp [coll, h1]
    rw [e]
    clear e
    go_enter Try.func23, Try.ntmps23
    go_wp2
    go_ret
    exact ⟨rfl, rfl⟩

theorem le_sum : ∀ (l : List Nat) (x : Nat), x ∈ l → x ≤ l.sum
  | [], x, h => by simp at h
  | a :: l, x, h => by
    rcases List.mem_cons.1 h with h | h
    · subst h; simp
    · have := le_sum l x h; simp; omega
theorem cnt_kid (n : Nat) (kids : List (Tree n)) (i : Nat) (h : i < kids.length) : cnt n (kids[i]'h) + 1 ≤ kids.length + (kids.map (cnt n)).sum := by
  have : cnt n (kids[i]'h) ≤ (kids.map (cnt n)).sum := by
    apply le_sum
    exact List.mem_map.2 ⟨_, List.getElem_mem h, rfl⟩
  omega

theorem firstK_drop {T : Type} (f : T → Nat → Option Nat) (len : T → Nat) (kids : List T) (i : Nat) (h : i < kids.length) (nx : Nat) :
    firstK f len (kids.drop i) nx = match f (kids[i]'h) nx with | some j => some j | none => firstK f len (kids.drop (i + 1)) (nx + len (kids[i]'h)) := by
  rw [List.drop_eq_getElem_cons h, firstK_cons]
  cases f (kids[i]'h) nx <;> rfl

set_option maxRecDepth 100000 in
set_option maxHeartbeats 1000000 in
theorem deep_any (S : Nat → Prop) (A : List Nat) (pb : Nat) (mx : Int) : ∀ (n : Nat) (t : Tree n) (p : Option Addr) (me : Nat) (d : Int) (w : World), GAt S w A n t (.pointer p) me → w.cell? ⟨pb, 4, none⟩ = some (.int .i64 mx) →
    -9223372036854775808 ≤ d → d + cnt n t + 1 ≤ 9223372036854775807 → cnt n t ≤ 1048576 →
    Calls Try.prog 24 #[.pointer (some ⟨pb, 0, none⟩), .pointer p, .int .i64 d] w fun e w' => e = .returned (.pointer (ptrOf A (td mx n t d me))) ∧ w' = w := by
  intro n
  induction n with
  | zero => intro t p me d w h; exact h.elim
  | succ n ih =>
    intro t p me d w h hmx hd1 hd2 hd3
    obtain ⟨nl, k, kids⟩ := t
    have IH := hid ih
    clear ih
    rw [GAt_succ] at h
    rw [td_succ]
    rw [cnt_succ] at hd2 hd3
    rcases h with ⟨rfl, hp⟩ | ⟨rfl, b, hAb, hp, hSb, hk, hkids⟩
    · simp only [Value.pointer.injEq] at hp
      subst hp
      go_enter Try.func24, Try.ntmps24
      go_wp2_with fail
      go_ret
      exact ⟨rfl, rfl⟩
    · simp only [Value.pointer.injEq] at hp
      subst hp
      simp only [Bool.false_eq_true, if_false]
      obtain ⟨R, hR⟩ : ∃ R, R = if (coll k && decide (mx < d + 1)) = true then some me else firstK (fun c nx => td mx n c (d + one (coll k)) nx) (fun c => (ps n c 0 0).length) kids (me + 1) := ⟨_, rfl⟩
      rw [← hR]
      have HR := hid hR
      clear hR
      go_enter Try.func24, Try.ntmps24
      go_upto_region 3 with fail
      go_cut [23] (fun v wz => v = .bool (coll k) ∧ w = wz)
      case first =>
        cases h1 : (k == 1)
        · have HC : Hid (coll k = (k == 2)) := by show _ = _; simp [coll, h1]
          go_wp2_with fail
          go_meet
          case rel => exact ⟨by rw [HC.out], rfl⟩
        · have HC : Hid (coll k = true) := by show _ = _; simp [coll, h1]
          go_wp2_with fail
          go_meet
          case rel => exact ⟨by rw [HC.out], rfl⟩
      case rest =>
        obtain ⟨rfl, rfl⟩ := hcut
        have HKD := hid hkids
        clear hkids
        have hAb' : A.getD me 0 = b := by simp [List.getD, hAb]
        have HAB := hid hAb'
        clear hAb hAb'
        by_cases hdeep : (coll k && decide (mx < d + 1)) = true
        · have hk2 : coll k = true ∧ mx < d + 1 := by simpa using hdeep
          have HRE : Hid (R = some me) := by show _ = _; rw [HR.out, if_pos hdeep]
          rw [hk2.1]
          have hlt := hk2.2
          clear hdeep hk2
          go_wp2_with fail
          go_ret
          exact ⟨by rw [HRE.out]; simp only [ptrOf]; rw [HAB.out]; rfl, rfl⟩
        · have HRE : Hid (R = firstK (fun c nx => td mx n c (d + one (coll k)) nx) (fun c => (ps n c 0 0).length) kids (me + 1)) := by show _ = _; rw [HR.out, if_neg hdeep]
          go_upto_if 23 with fail
          go_cut [2, 23] (fun v _ wz => v = .int .i64 (d + one (coll k)) ∧ w = wz)
          case first =>
            cases hck : coll k
            · clear hdeep
              go_wp2_with fail
              go_meet
              case rel => exact ⟨by rw [hck]; simp [one], rfl⟩
            · rw [hck] at hdeep
              have hnd : ¬ mx < d + 1 := by simpa using hdeep
              clear hdeep
              go_wp2_with fail
              go_meet
              case rel => exact ⟨by rw [hck]; simp [one], rfl⟩
          case rest =>
            obtain ⟨rfl, rfl⟩ := hcut
            have hone : 0 ≤ one (coll k) ∧ one (coll k) ≤ 1 := by unfold one; split <;> omega
            obtain ⟨d', hd'⟩ : ∃ d', d' = d + one (coll k) := ⟨_, rfl⟩
            rw [← hd'] at HRE ⊢
            have hdb1 : d ≤ d' := by omega
            have hdb2 : d' ≤ d + 1 := by omega
            clear hd' hone hdeep HR
            rcases HKD.out with ⟨hnil, hc4⟩ | ⟨g, hSg, hc4, hkd⟩
            · have HRN : Hid (R = none) := by show _ = _; rw [HRE.out, hnil]; rfl
              clear hnil HKD
              go_wp2_with fail
              go_loopg [38] 0 (fun _ x w4 => x = .int .i64 0 ∧ w = w4)
              case atStart => exact ⟨rfl, rfl⟩
              case round =>
                obtain ⟨rfl, rfl⟩ := hrel
                go_wp2_with fail
                go_ret
                exact ⟨by rw [HRN.out]; rfl, rfl⟩
            · have HKK := hid hkd
              clear hkd HKD
              have hlb : (kids.length : Int) ≤ 1048576 := by omega
              go_wp2_with fail
              go_loopg [38] kids.length (fun g x w4 => ∃ i : Nat, x = .int .i64 i ∧ w = w4 ∧ i ≤ kids.length ∧ R = firstK (fun c nx => td mx n c d' nx) (fun c => (ps n c 0 0).length) (kids.drop i) (me + 1 + offs n kids i) ∧ g = kids.length - i)
              case atStart => exact ⟨0, rfl, rfl, Nat.zero_le _, by rw [offs_zero, Nat.add_zero, List.drop_zero]; exact HRE.out, rfl⟩
              case round =>
                obtain ⟨i, rfl, rfl, hil, hRi, hg⟩ := hrel
                have HRI := hid hRi; have HG := hid hg
                clear hRi hg
                by_cases hlt : i < kids.length
                · obtain ⟨vi, hvi, hGi⟩ := HKK.out i hlt
                  obtain ⟨p, rfl⟩ := GAt.ptr n _ _ _ hGi
                  have hck := cnt_kid n kids i hlt
                  have G := hid (IH.out (kids[i]'hlt) p (me + 1 + offs n kids i) d' w hGi hmx (by omega) (by omega) (by omega))
                  have HFD : Hid (R = match td mx n (kids[i]'hlt) d' (me + 1 + offs n kids i) with | some j => some j | none => firstK (fun c nx => td mx n c d' nx) (fun c => (ps n c 0 0).length) (kids.drop (i + 1)) (me + 1 + offs n kids (i + 1))) := by
                    show _ = _
                    rw [HRI.out, firstK_drop _ _ _ _ hlt, offs_succ n kids i hlt, Nat.add_assoc (me + 1)]
                  clear hGi hck
                  cases ht : td mx n (kids[i]'hlt) d' (me + 1 + offs n kids i) with
                  | none =>
                    rw [ht] at G HFD
                    have HFE : Hid (R = firstK (fun c nx => td mx n c d' nx) (fun c => (ps n c 0 0).length) (kids.drop (i + 1)) (me + 1 + offs n kids (i + 1))) := HFD.out
                    clear ht HFD
                    simp only [ptrOf] at G
                    go_wp2_with fail
                    refine G.out.mono ?_
                    rintro e w5 ⟨rfl, rfl⟩
                    go_wp2_with fail
                    go_roundg (kids.length - (i + 1))
                    case measure => rw [HG.out]; omega
                    case rel => exact ⟨i + 1, by go_num, rfl, by omega, HFE.out, rfl⟩
                  | some j =>
                    rw [ht] at G HFD
                    have HFE : Hid (R = some j) := HFD.out
                    clear ht HFD
                    simp only [ptrOf] at G
                    go_wp2_with fail
                    refine G.out.mono ?_
                    rintro e w5 ⟨rfl, rfl⟩
                    go_wp2_with fail
                    go_ret
                    exact ⟨by rw [HFE.out]; rfl, rfl⟩
                · have HFE : Hid (R = none) := by
                    show _ = _
                    rw [HRI.out, List.drop_eq_nil_of_le (by omega)]; rfl
                  go_wp2_with fail
                  go_ret
                  exact ⟨by rw [HFE.out]; rfl, rfl⟩
end Go.Proofs.Qxb6617969a.Deep
