import Derived.Test.Qxb6618170aW9
namespace Go.Proofs.Qxb6618170a
open Go.RowKit

def CutN (w : World) (X : List Bool) (L : List (Option Addr × List Bool)) (s : Value) (wd : World) : Prop :=
  ∃ yo yc, s = .slice yo X.length yc ∧ Bools wd yo X ∧ (∀ p ∈ L, Bools wd p.1 p.2) ∧ Below w.heap.size w wd

def RelS (w : World) (M : List C4) (x y i : Value) (wr : World) : Prop :=
  ∃ k a b : Nat, k ≤ M.length ∧ i = .int .i64 k ∧ x = .int .i64 a ∧ y = .int .i64 b ∧ Hid (a = sumA (M.take k)) ∧ Hid (b = sumC (M.take k)) ∧ Below w.heap.size w wr

theorem sumA_append (M M' : List C4) : sumA (M ++ M') = sumA M + sumA M' := by simp [sumA]
theorem sumC_append (M M' : List C4) : sumC (M ++ M') = sumC M + sumC M' := by simp [sumC]
theorem sumA_take (M : List C4) (k : Nat) : sumA (M.take k) ≤ sumA M := by
  have := sumA_append (M.take k) (M.drop k)
  rw [List.take_append_drop] at this
  omega
theorem sumC_take (M : List C4) (k : Nat) : sumC (M.take k) ≤ sumC M := by
  have := sumC_append (M.take k) (M.drop k)
  rw [List.take_append_drop] at this
  omega
theorem sumA_snoc (M : List C4) (k : Nat) (h : k < M.length) : sumA (M.take (k + 1)) = sumA (M.take k) + (M[k].b - M[k].a) := by
  rw [take_snoc M k h, sumA_append]; simp [sumA]
theorem sumC_snoc (M : List C4) (k : Nat) (h : k < M.length) : sumC (M.take (k + 1)) = sumC (M.take k) + (M[k].d - M[k].c) := by
  rw [take_snoc M k h, sumC_append]; simp [sumC]
theorem kept_append (D E : List Bool) : kept (D ++ E) = kept D + kept E := by simp [kept]

set_option maxRecDepth 100000 in
set_option maxHeartbeats 2000000 in
theorem law4_1 (ao bo co eo : Option Addr) (D1 I1 D2 I2 : List Bool) (ac bc cc ec : Nat) (w : World) (hD1 : Bools w ao D1) (hI1 : Bools w bo I1) (hD2 : Bools w co D2) (hI2 : Bools w eo I2) (l1 : D1.length ≤ maxLen) (l2 : I1.length ≤ maxLen) (l3 : D2.length ≤ maxLen) (l4 : I2.length ≤ maxLen) (hk : ¬ kept D1 = kept I1) :
    Calls Try.prog 4 #[.slice ao D1.length ac, .slice bo I1.length bc, .slice co D2.length cc, .slice eo I2.length ec] w fun e w' => e = .returned (.bool true) ∧ Below w.heap.size w w' := by
  have K1 := keptCount_any ao D1 ac w hD1 l1
  have K2 := keptCount_any bo I1 bc w hI1 l2
  have K3 := keptCount_any co D2 cc w hD2 l3
  have K4 := keptCount_any eo I2 ec w hI2 l4
  have CB := bytes_join ao bo co eo D1.length I1.length D2.length I2.length ac bc cc ec w l1 l2 l3 l4
  unfold maxLen at l1 l2 l3 l4
  have hk' : ¬ (kept D1 : Int) = kept I1 := by omega
  clear hk
  go_enter Try.func4, Try.ntmps4
  go_wp2_with fail
  refine CB.mono ?_
  rintro e w' ⟨⟨b, rfl⟩, rfl⟩
  cases b with
  | false =>
    go_wp2
    go_ret
    exact ⟨rfl, Below.refl _ _⟩
  | true =>
    by_cases c1 : 65536 < (D1.length : Int)
    · go_wp2
      go_ret
      exact ⟨rfl, Below.refl _ _⟩
    by_cases c2 : 65536 < (I1.length : Int)
    · go_wp2
      go_ret
      exact ⟨rfl, Below.refl _ _⟩
    by_cases c3 : 65536 < (D2.length : Int)
    · go_wp2
      go_ret
      exact ⟨rfl, Below.refl _ _⟩
    by_cases c4 : 65536 < (I2.length : Int)
    · go_wp2
      go_ret
      exact ⟨rfl, Below.refl _ _⟩
    go_wp2_with fail
    refine K1.mono ?_
    rintro e w' ⟨rfl, rfl⟩
    go_wp2_with fail
    refine K2.mono ?_
    rintro e w' ⟨rfl, rfl⟩
    go_wp2
    go_ret
    exact ⟨rfl, Below.refl _ _⟩

set_option maxRecDepth 100000 in
set_option maxHeartbeats 2000000 in
theorem law4_2 (ao bo co eo : Option Addr) (D1 I1 D2 I2 : List Bool) (ac bc cc ec : Nat) (w : World) (hD1 : Bools w ao D1) (hI1 : Bools w bo I1) (hD2 : Bools w co D2) (hI2 : Bools w eo I2) (l1 : D1.length ≤ maxLen) (l2 : I1.length ≤ maxLen) (l3 : D2.length ≤ maxLen) (l4 : I2.length ≤ maxLen) (hk1 : kept D1 = kept I1) (hk : ¬ kept D2 = kept I2) :
    Calls Try.prog 4 #[.slice ao D1.length ac, .slice bo I1.length bc, .slice co D2.length cc, .slice eo I2.length ec] w fun e w' => e = .returned (.bool true) ∧ Below w.heap.size w w' := by
  have K1 := keptCount_any ao D1 ac w hD1 l1
  have K2 := keptCount_any bo I1 bc w hI1 l2
  have K3 := keptCount_any co D2 cc w hD2 l3
  have K4 := keptCount_any eo I2 ec w hI2 l4
  have CB := bytes_join ao bo co eo D1.length I1.length D2.length I2.length ac bc cc ec w l1 l2 l3 l4
  unfold maxLen at l1 l2 l3 l4
  have hk' : ¬ (kept D2 : Int) = kept I2 := by omega
  rw [← hk1] at K2
  clear hk hk1
  go_enter Try.func4, Try.ntmps4
  go_wp2_with fail
  refine CB.mono ?_
  rintro e w' ⟨⟨b, rfl⟩, rfl⟩
  cases b with
  | false =>
    go_wp2
    go_ret
    exact ⟨rfl, Below.refl _ _⟩
  | true =>
    by_cases c1 : 65536 < (D1.length : Int)
    · go_wp2
      go_ret
      exact ⟨rfl, Below.refl _ _⟩
    by_cases c2 : 65536 < (I1.length : Int)
    · go_wp2
      go_ret
      exact ⟨rfl, Below.refl _ _⟩
    by_cases c3 : 65536 < (D2.length : Int)
    · go_wp2
      go_ret
      exact ⟨rfl, Below.refl _ _⟩
    by_cases c4 : 65536 < (I2.length : Int)
    · go_wp2
      go_ret
      exact ⟨rfl, Below.refl _ _⟩
    go_wp2_with fail
    refine K1.mono ?_
    rintro e w' ⟨rfl, rfl⟩
    go_wp2_with fail
    refine K2.mono ?_
    rintro e w' ⟨rfl, rfl⟩
    go_wp2_with fail
    refine K3.mono ?_
    rintro e w' ⟨rfl, rfl⟩
    go_wp2_with fail
    refine K4.mono ?_
    rintro e w' ⟨rfl, rfl⟩
    go_wp2
    go_ret
    exact ⟨rfl, Below.refl _ _⟩

set_option maxRecDepth 100000 in
set_option maxHeartbeats 4000000 in
theorem law4_3 (ao bo co eo : Option Addr) (D1 I1 D2 I2 : List Bool) (ac bc cc ec : Nat) (w : World) (hD1 : Bools w ao D1) (hI1 : Bools w bo I1) (hD2 : Bools w co D2) (hI2 : Bools w eo I2) (n1 : ao = none → D1 = [] ∧ ac = 0) (n2 : bo = none → I1 = [] ∧ bc = 0) (n3 : co = none → D2 = [] ∧ cc = 0) (n4 : eo = none → I2 = [] ∧ ec = 0) (l1 : D1.length ≤ maxLen) (l2 : I1.length ≤ maxLen) (l3 : D2.length ≤ maxLen) (l4 : I2.length ≤ maxLen) (hk1 : kept D1 = kept I1) (hk2 : kept D2 = kept I2) :
    Calls Try.prog 4 #[.slice ao D1.length ac, .slice bo I1.length bc, .slice co D2.length cc, .slice eo I2.length ec] w fun e w' => e = .returned (.bool true) ∧ Below w.heap.size w w' := by
  obtain ⟨i0, hi, hz0, hz1, hz2⟩ := info_parts Try.info4
  have hnq : ∀ (a : Option Addr) (l c : Nat) (w : World), (binOp .neq 22 (.slice a l c) (.slice none 0 0)).run Try.prog w = .ok (.bool (!a.isNone)) w := fun a l c w => run_neq_slice_nil w 22 4 a l c Try.underlying22
  have K1 := keptCount_any ao D1 ac w hD1 l1
  have K2 := keptCount_any bo I1 bc w hI1 l2
  have K3 := keptCount_any co D2 cc w hD2 l3
  have K4 := keptCount_any eo I2 ec w hI2 l4
  have CB := bytes_join ao bo co eo D1.length I1.length D2.length I2.length ac bc cc ec w l1 l2 l3 l4
  unfold maxLen at l1 l2 l3 l4
  rw [← hk1] at K2
  rw [← hk2] at K4
  have hkk : kept (D1 ++ D2) = kept (I1 ++ I2) := by rw [kept_append, kept_append, hk1, hk2]
  have Z1 := fun xo yo xc yc w1 h1 h2 a1 a2 => zzChanges_any xo yo D1 I1 xc yc w1 h1 h2 a1 a2 hk1
  have Z2 := fun xo yo xc yc w1 h1 h2 a1 a2 => zzChanges_any xo yo D2 I2 xc yc w1 h1 h2 a1 a2 hk2
  have Z3 := fun xo yo xc yc w1 h1 h2 a1 a2 => zzChanges_any xo yo (D1 ++ D2) (I1 ++ I2) xc yc w1 h1 h2 a1 a2 hkk
  have JD := fun xo yo xc yc w1 h1 h2 a1 => joinBools_any xo yo D1 D2 xc yc w1 h1 h2 a1
  have JI := fun xo yo xc yc w1 h1 h2 a1 => joinBools_any xo yo I1 I2 xc yc w1 h1 h2 a1
  have hjoin := join_eq D1 I1 D2 I2 hk1
  have hsums := sums_eq (D1 ++ D2) (I1 ++ I2) hkk
  have hb := ch_bounds (D1 ++ D2) (I1 ++ I2)
  have hb1 := ch_bounds D1 I1
  have hb2 := ch_bounds D2 I2
  have hlM : (nz 0 0 (runs (D1 ++ D2)) (runs (I1 ++ I2))).length ≤ D1.length + D2.length + 1 := by
    have h1 := nz_length (runs (D1 ++ D2)) 0 0 (runs (I1 ++ I2))
    have h2 := runs_length (D1 ++ D2)
    have h3 := kept_le (D1 ++ D2)
    rw [List.length_append] at h3
    omega
  have hlF : (nz 0 0 (runs D1) (runs I1)).length ≤ D1.length + 1 := by
    have h1 := nz_length (runs D1) 0 0 (runs I1)
    have h2 := runs_length D1
    have h3 := kept_le D1
    omega
  have hlS : (nz 0 0 (runs D2) (runs I2)).length ≤ D2.length + 1 := by
    have h1 := nz_length (runs D2) 0 0 (runs I2)
    have h2 := runs_length D2
    have h3 := kept_le D2
    omega
  have eDD : (D1 ++ D2).length = D1.length + D2.length := List.length_append
  have eII : (I1 ++ I2).length = I1.length + I2.length := List.length_append
  clear hk1 hk2 hkk
  obtain ⟨DD, hDD⟩ : ∃ DD, DD = D1 ++ D2 := ⟨_, rfl⟩
  obtain ⟨II, hII⟩ : ∃ II, II = I1 ++ I2 := ⟨_, rfl⟩
  simp only [← hDD, ← hII] at Z3 JD JI hjoin hsums hb hlM eDD eII
  clear hDD hII
  obtain ⟨M, hM⟩ : ∃ M, M = nz 0 0 (runs DD) (runs II) := ⟨_, rfl⟩
  obtain ⟨F, hF⟩ : ∃ F, F = nz 0 0 (runs D1) (runs I1) := ⟨_, rfl⟩
  obtain ⟨S, hS⟩ : ∃ S, S = nz 0 0 (runs D2) (runs I2) := ⟨_, rfl⟩
  simp only [← hM] at Z3 hjoin hsums hb hlM
  simp only [← hF] at Z1 hjoin hb1 hlF
  simp only [← hS] at Z2 hjoin hb2 hlS
  clear hM hF hS
  have mD := marked_le DD
  have mI := marked_le II
  have HDD : Hid (DD.length = D1.length + D2.length) := eDD
  have HII : Hid (II.length = I1.length + I2.length) := eII
  have Hjoin : Hid (M = J D1.length I1.length F (S.map (shift D1.length I1.length))) := hjoin
  have HsA : Hid (sumA M = marked DD) := hsums.1
  have HsC : Hid (sumC M = marked II) := hsums.2
  clear hjoin hsums eDD eII
  go_enter Try.func4, Try.ntmps4
  go_wp2_with fail
  refine CB.mono ?_
  rintro e w' ⟨⟨b, rfl⟩, rfl⟩
  cases b with
  | false =>
    go_wp2
    go_ret
    exact ⟨rfl, Below.refl _ _⟩
  | true =>
    by_cases c1 : 65536 < (D1.length : Int)
    · go_wp2
      go_ret
      exact ⟨rfl, Below.refl _ _⟩
    by_cases c2 : 65536 < (I1.length : Int)
    · go_wp2
      go_ret
      exact ⟨rfl, Below.refl _ _⟩
    by_cases c3 : 65536 < (D2.length : Int)
    · go_wp2
      go_ret
      exact ⟨rfl, Below.refl _ _⟩
    by_cases c4 : 65536 < (I2.length : Int)
    · go_wp2
      go_ret
      exact ⟨rfl, Below.refl _ _⟩
    go_wp2_with fail
    refine K1.mono ?_
    rintro e w' ⟨rfl, rfl⟩
    go_wp2_with fail
    refine K2.mono ?_
    rintro e w' ⟨rfl, rfl⟩
    go_wp2_with fail
    refine K3.mono ?_
    rintro e w' ⟨rfl, rfl⟩
    go_wp2_with fail
    refine K4.mono ?_
    rintro e w' ⟨rfl, rfl⟩
    clear K1 K2 K3 K4 CB
    have g1 : D1.length ≤ 65536 := by omega
    have g2 : I1.length ≤ 65536 := by omega
    have g3 : D2.length ≤ 65536 := by omega
    have g4 : I2.length ≤ 65536 := by omega
    have g5 : DD.length ≤ 131072 := by have := HDD.out; omega
    have g6 : II.length ≤ 131072 := by have := HII.out; omega
    have hsz0 : w.heap.size ≤ w.heap.size := Nat.le_refl _
    have B0 : Below w.heap.size w w := Below.refl _ _
    go_upto_if 51 with fail
    go_cut [0] (fun s0 wd => CutN w D1 [] s0 wd)
    case first =>
      cases hao : ao with
      | none =>
        have He1 : Hid (D1 = []) := (n1 hao).1
        subst hao
        go_wp2
        go_meet
        case rel => exact ⟨none, 0, by rw [He1.out]; rfl, .inl He1.out, (fun p hp => by cases hp), B0⟩
      | some a =>
        subst hao
        have hXc := hD1.below B0 hD1.block
        go_wp2_with (at_make; refine wpList_make_full _ rfl _ _ 22 rfl w.heap.size 4 i0 _ 1 Try.underlying22 hi hz0 hz1 _ _ _ _ D1.length rfl rfl rfl rfl (by rw [hz2]; omega) (by unfold maxLen; omega) (Nat.le_refl _) ?_)
        intro w1 hown hgrow
        obtain ⟨cur, hcur, hcl⟩ := made_row hown
        have hb1' : Below w.heap.size w w1 := (Below.refl _ _).grown hgrow (Nat.le_refl _) (fun _ h => by cases h)
        have hsrc := (hXc.below hb1' hXc.block).src
        have Hcur : Hid (w1.heap[w.heap.size]? = some (.cells cur.toArray 4 (0, 0))) := hcur
        have Hcl : Hid (cur.length = D1.length) := hcl
        clear hown hgrow hcur hcl
        go_wp2_with ((with_reducible refine wpList_copy_splice ?_ (.tmp 55) (.tmp 56) 22 22 ?_ 4 Try.underlying22 Try.size4 (some ⟨w.heap.size, 0, none⟩) (some a) D1.length D1.length D1.length ac ?_ ?_ w.heap.size 0 cur 4 Hcur.out (bv D1) ?_ ?_ ?_ (bv_one D1) w.heap.size w hb1' (Nat.le_refl _) ?_); rfl; rfl; rfl; rfl; (rw [bv_length]; exact (Nat.min_self _).symm); (intro hp; exact ⟨rfl, hsrc hp⟩); (have := Hcl.out; rw [bv_length]; omega))
        intro w2 HG2 hB2
        go_wp2
        go_meet
        case rel => exact ⟨_, _, rfl, copied HG2.out Hcl.out, (fun p hp => by cases hp), B0.trans (hB2.mono B0.size)⟩
    case rest =>
     obtain ⟨x0, z0, rfl, hx0, hp0, B1⟩ := hcut
     have P1 : ∀ p ∈ ([(x0, D1)] : List (Option Addr × List Bool)), Bools wc p.1 p.2 := by
       intro p hp
       simp only [List.mem_cons, List.not_mem_nil, or_false] at hp
       rcases hp with rfl
       · exact hx0
     clear hx0 hp0
     go_upto_if 60 with fail
     go_cut [1] (fun s1 wd => CutN w I1 [(x0, D1)] s1 wd)
     case first =>
       cases hao : bo with
       | none =>
         have He1 : Hid (I1 = []) := (n2 hao).1
         subst hao
         go_wp2
         go_meet
         case rel => exact ⟨none, 0, by rw [He1.out]; rfl, .inl He1.out, P1, B1⟩
       | some a =>
         subst hao
         have hXc := hI1.below B1 hI1.block
         go_wp2_with (at_make; refine wpList_make_full _ rfl _ _ 22 rfl wc.heap.size 4 i0 _ 1 Try.underlying22 hi hz0 hz1 _ _ _ _ I1.length rfl rfl rfl rfl (by rw [hz2]; omega) (by unfold maxLen; omega) (Nat.le_refl _) ?_)
         intro w1 hown hgrow
         obtain ⟨cur, hcur, hcl⟩ := made_row hown
         have hb1' : Below wc.heap.size wc w1 := (Below.refl _ _).grown hgrow (Nat.le_refl _) (fun _ h => by cases h)
         have hsrc := (hXc.below hb1' hXc.block).src
         have Hcur : Hid (w1.heap[wc.heap.size]? = some (.cells cur.toArray 4 (0, 0))) := hcur
         have Hcl : Hid (cur.length = I1.length) := hcl
         clear hown hgrow hcur hcl
         go_wp2_with ((with_reducible refine wpList_copy_splice ?_ (.tmp 64) (.tmp 65) 22 22 ?_ 4 Try.underlying22 Try.size4 (some ⟨wc.heap.size, 0, none⟩) (some a) I1.length I1.length I1.length bc ?_ ?_ wc.heap.size 0 cur 4 Hcur.out (bv I1) ?_ ?_ ?_ (bv_one I1) wc.heap.size wc hb1' (Nat.le_refl _) ?_); rfl; rfl; rfl; rfl; (rw [bv_length]; exact (Nat.min_self _).symm); (intro hp; exact ⟨rfl, hsrc hp⟩); (have := Hcl.out; rw [bv_length]; omega))
         intro w2 HG2 hB2
         go_wp2
         go_meet
         case rel => exact ⟨_, _, rfl, copied HG2.out Hcl.out, (fun p hp => (P1 p hp).below hB2 (P1 p hp).block), B1.trans (hB2.mono B1.size)⟩
     case rest =>
      obtain ⟨x1, z1, rfl, hx1, hp1, B2⟩ := hcut
      have P2 : ∀ p ∈ ([(x0, D1), (x1, I1)] : List (Option Addr × List Bool)), Bools wc p.1 p.2 := by
        intro p hp
        simp only [List.mem_cons, List.not_mem_nil, or_false] at hp
        rcases hp with rfl | rfl
        · exact hp1 _ (by simp)
        · exact hx1
      clear hx1 hp1 P1 B1
      go_upto_if 69 with fail
      go_cut [2] (fun s2 wd => CutN w D2 [(x0, D1), (x1, I1)] s2 wd)
      case first =>
        cases hao : co with
        | none =>
          have He1 : Hid (D2 = []) := (n3 hao).1
          subst hao
          go_wp2
          go_meet
          case rel => exact ⟨none, 0, by rw [He1.out]; rfl, .inl He1.out, P2, B2⟩
        | some a =>
          subst hao
          have hXc := hD2.below B2 hD2.block
          go_wp2_with (at_make; refine wpList_make_full _ rfl _ _ 22 rfl wc.heap.size 4 i0 _ 1 Try.underlying22 hi hz0 hz1 _ _ _ _ D2.length rfl rfl rfl rfl (by rw [hz2]; omega) (by unfold maxLen; omega) (Nat.le_refl _) ?_)
          intro w1 hown hgrow
          obtain ⟨cur, hcur, hcl⟩ := made_row hown
          have hb1' : Below wc.heap.size wc w1 := (Below.refl _ _).grown hgrow (Nat.le_refl _) (fun _ h => by cases h)
          have hsrc := (hXc.below hb1' hXc.block).src
          have Hcur : Hid (w1.heap[wc.heap.size]? = some (.cells cur.toArray 4 (0, 0))) := hcur
          have Hcl : Hid (cur.length = D2.length) := hcl
          clear hown hgrow hcur hcl
          go_wp2_with ((with_reducible refine wpList_copy_splice ?_ (.tmp 73) (.tmp 74) 22 22 ?_ 4 Try.underlying22 Try.size4 (some ⟨wc.heap.size, 0, none⟩) (some a) D2.length D2.length D2.length cc ?_ ?_ wc.heap.size 0 cur 4 Hcur.out (bv D2) ?_ ?_ ?_ (bv_one D2) wc.heap.size wc hb1' (Nat.le_refl _) ?_); rfl; rfl; rfl; rfl; (rw [bv_length]; exact (Nat.min_self _).symm); (intro hp; exact ⟨rfl, hsrc hp⟩); (have := Hcl.out; rw [bv_length]; omega))
          intro w2 HG2 hB2
          go_wp2
          go_meet
          case rel => exact ⟨_, _, rfl, copied HG2.out Hcl.out, (fun p hp => (P2 p hp).below hB2 (P2 p hp).block), B2.trans (hB2.mono B2.size)⟩
      case rest =>
       obtain ⟨x2, z2, rfl, hx2, hp2, B3⟩ := hcut
       have P3 : ∀ p ∈ ([(x0, D1), (x1, I1), (x2, D2)] : List (Option Addr × List Bool)), Bools wc p.1 p.2 := by
         intro p hp
         simp only [List.mem_cons, List.not_mem_nil, or_false] at hp
         rcases hp with rfl | rfl | rfl
         · exact hp2 _ (by simp)
         · exact hp2 _ (by simp)
         · exact hx2
       clear hx2 hp2 P2 B2
       go_upto_if 78 with fail
       go_cut [3] (fun s3 wd => CutN w I2 [(x0, D1), (x1, I1), (x2, D2)] s3 wd)
       case first =>
         cases hao : eo with
         | none =>
           have He1 : Hid (I2 = []) := (n4 hao).1
           subst hao
           go_wp2
           go_meet
           case rel => exact ⟨none, 0, by rw [He1.out]; rfl, .inl He1.out, P3, B3⟩
         | some a =>
           subst hao
           have hXc := hI2.below B3 hI2.block
           go_wp2_with (at_make; refine wpList_make_full _ rfl _ _ 22 rfl wc.heap.size 4 i0 _ 1 Try.underlying22 hi hz0 hz1 _ _ _ _ I2.length rfl rfl rfl rfl (by rw [hz2]; omega) (by unfold maxLen; omega) (Nat.le_refl _) ?_)
           intro w1 hown hgrow
           obtain ⟨cur, hcur, hcl⟩ := made_row hown
           have hb1' : Below wc.heap.size wc w1 := (Below.refl _ _).grown hgrow (Nat.le_refl _) (fun _ h => by cases h)
           have hsrc := (hXc.below hb1' hXc.block).src
           have Hcur : Hid (w1.heap[wc.heap.size]? = some (.cells cur.toArray 4 (0, 0))) := hcur
           have Hcl : Hid (cur.length = I2.length) := hcl
           clear hown hgrow hcur hcl
           go_wp2_with ((with_reducible refine wpList_copy_splice ?_ (.tmp 82) (.tmp 83) 22 22 ?_ 4 Try.underlying22 Try.size4 (some ⟨wc.heap.size, 0, none⟩) (some a) I2.length I2.length I2.length ec ?_ ?_ wc.heap.size 0 cur 4 Hcur.out (bv I2) ?_ ?_ ?_ (bv_one I2) wc.heap.size wc hb1' (Nat.le_refl _) ?_); rfl; rfl; rfl; rfl; (rw [bv_length]; exact (Nat.min_self _).symm); (intro hp; exact ⟨rfl, hsrc hp⟩); (have := Hcl.out; rw [bv_length]; omega))
           intro w2 HG2 hB2
           go_wp2
           go_meet
           case rel => exact ⟨_, _, rfl, copied HG2.out Hcl.out, (fun p hp => (P3 p hp).below hB2 (P3 p hp).block), B3.trans (hB2.mono B3.size)⟩
       case rest =>
        obtain ⟨x3, z3, rfl, hx3, hp3, B4⟩ := hcut
        have P4 : ∀ p ∈ ([(x0, D1), (x1, I1), (x2, D2), (x3, I2)] : List (Option Addr × List Bool)), Bools wc p.1 p.2 := by
          intro p hp
          simp only [List.mem_cons, List.not_mem_nil, or_false] at hp
          rcases hp with rfl | rfl | rfl | rfl
          · exact hp3 _ (by simp)
          · exact hp3 _ (by simp)
          · exact hp3 _ (by simp)
          · exact hx3
        clear hx3 hp3 P3 B3
        have y0 : Bools wc x0 D1 := P4 (x0, D1) (by simp)
        have y1 : Bools wc x1 I1 := P4 (x1, I1) (by simp)
        have y2 : Bools wc x2 D2 := P4 (x2, D2) (by simp)
        have y3 : Bools wc x3 I2 := P4 (x3, I2) (by simp)
        clear P4 hD1 hI1 hD2 hI2 n1 n2 n3 n4
        go_wp2_with fail
        refine (JD x0 x2 z0 z2 wc y0 y2 (by omega)).mono ?_
        rintro e w5 ⟨rfl, hd5, b5⟩
        have y05 := y0.below b5 y0.block
        have y15 := y1.below b5 y1.block
        have y25 := y2.below b5 y2.block
        have y35 := y3.below b5 y3.block
        clear y0 y1 y2 y3
        go_wp2_with fail
        refine (JI x1 x3 z1 z3 w5 y15 y35 (by omega)).mono ?_
        rintro e w6 ⟨rfl, hi6, b6⟩
        have hd6 := hd5.below b6 hd5.block
        have y06 := y05.below b6 y05.block
        have y16 := y15.below b6 y15.block
        have y26 := y25.below b6 y25.block
        have y36 := y35.below b6 y35.block
        clear y05 y15 y25 y35 hd5 JD JI
        go_wp2_with fail
        refine (Z3 (some ⟨wc.heap.size, 0, none⟩) (some ⟨w5.heap.size, 0, none⟩) (D1.length + D2.length) (I1.length + I2.length) w6 hd6 hi6 (by omega) (by omega)).mono ?_
        rintro e w7 ⟨v, rfl, hG⟩
        obtain ⟨mo, mc, rfl, hC7⟩ := hG.chs
        have b7 := hG.bel
        clear hG Z3
        have hd7 := hd6.below b7 hd6.block
        have hi7 := hi6.below b7 hi6.block
        have y07 := y06.below b7 y06.block
        have y17 := y16.below b7 y16.block
        have y27 := y26.below b7 y26.block
        have y37 := y36.below b7 y36.block
        clear y06 y16 y26 y36 hd6 hi6
        go_wp2_with fail
        refine (Z1 x0 x1 z0 z1 w7 y07 y17 (by omega) (by omega)).mono ?_
        rintro e w8 ⟨v, rfl, hG⟩
        obtain ⟨fo, fc, rfl, hF8⟩ := hG.chs
        have b8 := hG.bel
        clear hG Z1
        have hd8 := hd7.below b8 hd7.block
        have hi8 := hi7.below b8 hi7.block
        have hC8 := hC7.below b8 (Nat.le_refl _)
        have y28 := y27.below b8 y27.block
        have y38 := y37.below b8 y37.block
        clear y07 y17 y27 y37 hd7 hi7 hC7
        go_wp2_with fail
        refine (Z2 x2 x3 z2 z3 w8 y28 y38 (by omega) (by omega)).mono ?_
        rintro e w9 ⟨v, rfl, hG⟩
        obtain ⟨so, sc, rfl, hS9⟩ := hG.chs
        have b9 := hG.bel
        clear hG Z2
        have hd9 := hd8.below b9 hd8.block
        have hi9 := hi8.below b9 hi8.block
        have hC9 := hC8.below b9 (Nat.le_refl _)
        have hF9 := hF8.below b9 (Nat.le_refl _)
        clear y28 y38 hd8 hi8 hC8 hF8
        have CJ := joinChanges_any fo so F S fc sc D1.length I1.length w9 hF9 hS9 (by omega) (by omega) (by omega) (by omega) (fun c hc => by have := hb1 c hc; omega) (fun c hc => by have := hb2 c hc; omega)
        rw [← Hjoin.out] at CJ
        clear Hjoin hb1 hb2
        go_wp2_with fail
        refine CJ.mono ?_
        rintro e w10 ⟨v, rfl, hG⟩
        obtain ⟨jo, jc, rfl, hJ10⟩ := hG.chs
        have b10 := hG.bel
        clear hG CJ hF9 hS9
        have hd10 := hd9.below b10 hd9.block
        have hi10 := hi9.below b10 hi9.block
        have hC10 := hC9.below b10 (Nat.le_refl _)
        clear hd9 hi9 hC9
        go_wp2_with fail
        refine (same_self mo jo M mc jc w10 hC10 hJ10 (by omega)).mono ?_
        rintro e w11 ⟨rfl, b11⟩
        have hd11 := hd10.below b11 hd10.block
        have hi11 := hi10.below b11 hi10.block
        have hC11 := hC10.below b11 (Nat.le_refl _)
        have s4 := B4.size
        have s5 := b5.size
        have s6 := b6.size
        have s7 := b7.size
        have s8 := b8.size
        have s9 := b9.size
        have s10 := b10.size
        have BT : Below w.heap.size w w11 := B4.trans ((b5.trans ((b6.trans ((b7.trans ((b8.trans ((b9.trans ((b10.trans (b11.mono s10)).mono s9)).mono s8)).mono s7)).mono s6)).mono s5)).mono s4)
        have s11 := b11.size
        have hw11 : w.heap.size ≤ w11.heap.size := BT.size
        clear b5 b6 b7 b8 b9 b10 b11 hd10 hi10 hC10 hJ10 B4 s4 s5 s6 s7 s8 s9 s10 s11
        have CM1 := markedCount_any (some ⟨wc.heap.size, 0, none⟩) DD (D1.length + D2.length)
        have CM2 := markedCount_any (some ⟨w5.heap.size, 0, none⟩) II (I1.length + I2.length)
        go_wp2
        go_loopw [19, 20, 21] (fun x y i wr => RelS w11 M x y i wr) (fun _ _ i _ => M.length - (intOf i).toNat)
        case atStart => exact ⟨0, 0, 0, Nat.zero_le _, rfl, rfl, rfl, rfl, rfl, Below.refl _ _⟩
        case round =>
          obtain ⟨k, a, b, hk, rfl, rfl, rfl, ha, hbb, hW⟩ := hrel
          by_cases hlt : k < M.length
          · obtain h | ⟨g, rfl, hg, hc⟩ := hC11
            · simp [h] at hlt
            have bM := hb M[k] (List.getElem_mem _)
            have hA := hc k M[k] (by simp)
            obtain ⟨c0, c1, c2, c3⟩ := hA.below hW hg
            have uA : a ≤ DD.length := by have h1 := sumA_take M k; have h2 := ha.out; have h3 := HsA.out; omega
            have uC : b ≤ II.length := by have h1 := sumC_take M k; have h2 := hbb.out; have h3 := HsC.out; omega
            have HA : Hid (sumA (M.take (k + 1)) = sumA (M.take k) + (M[k].b - M[k].a)) := sumA_snoc M k hlt
            have HC : Hid (sumC (M.take (k + 1)) = sumC (M.take k) + (M[k].d - M[k].c)) := sumC_snoc M k hlt
            obtain ⟨t1, t2, t3, t4⟩ := bM
            have hlt' : (k : Int) < (M.length : Int) := by omega
            clear hc
            go_wp2
            go_quiet (fail)
            obtain ⟨wq, hwq⟩ : ∃ wq, wq = wr.drewN nq := ⟨_, rfl⟩
            have hW2 : Below w11.heap.size w11 wq := by rw [hwq]; exact below_drewN' hW nq
            rw [← hwq]
            clear hwq c0 c1 c2 c3
            obtain ⟨c0, c1, c2, c3⟩ := hA.below hW2 hg
            go_wp2
            go_quiet (fail)
            obtain ⟨wp, hwp⟩ : ∃ wp, wp = wq.drewN nq := ⟨_, rfl⟩
            have hW3 : Below w11.heap.size w11 wp := by rw [hwp]; exact below_drewN' hW2 nq
            rw [← hwp]
            clear hwp c0 c1 c2 c3
            go_wp2
            go_roundw
            case rel => exact ⟨k + 1, a + (M[k].b - M[k].a), b + (M[k].d - M[k].c), by omega, by go_num, by congr 1; omega, by congr 1; omega, by show _ = _; rw [HA.out, ← ha.out], by show _ = _; rw [HC.out, ← hbb.out], hW3⟩
            case measure => simp [intOf]; omega
          · obtain rfl : k = M.length := by omega
            have ea := ha.out
            have eb := hbb.out
            rw [List.take_of_length_le (Nat.le_refl _), HsA.out] at ea
            rw [List.take_of_length_le (Nat.le_refl _), HsC.out] at eb
            subst ea eb
            have hdr := hd11.below hW hd11.block
            have hir := hi11.below hW hi11.block
            go_wp2_with fail
            refine (CM1 wr hdr (by unfold maxLen; omega)).mono ?_
            rintro e w' ⟨rfl, rfl⟩
            go_wp2_with fail
            refine (CM2 _ hir (by unfold maxLen; omega)).mono ?_
            rintro e w' ⟨rfl, rfl⟩
            go_wp2
            go_ret
            exact ⟨rfl, BT.trans (hW.mono hw11)⟩

theorem law4 (ao bo co eo : Option Addr) (D1 I1 D2 I2 : List Bool) (ac bc cc ec : Nat) (w : World) (hD1 : Bools w ao D1) (hI1 : Bools w bo I1) (hD2 : Bools w co D2) (hI2 : Bools w eo I2) (n1 : ao = none → D1 = [] ∧ ac = 0) (n2 : bo = none → I1 = [] ∧ bc = 0) (n3 : co = none → D2 = [] ∧ cc = 0) (n4 : eo = none → I2 = [] ∧ ec = 0) (l1 : D1.length ≤ maxLen) (l2 : I1.length ≤ maxLen) (l3 : D2.length ≤ maxLen) (l4 : I2.length ≤ maxLen) :
    Calls Try.prog 4 #[.slice ao D1.length ac, .slice bo I1.length bc, .slice co D2.length cc, .slice eo I2.length ec] w fun e w' => e = .returned (.bool true) ∧ Below w.heap.size w w' := by
  by_cases hk1 : kept D1 = kept I1
  · by_cases hk2 : kept D2 = kept I2
    · exact law4_3 ao bo co eo D1 I1 D2 I2 ac bc cc ec w hD1 hI1 hD2 hI2 n1 n2 n3 n4 l1 l2 l3 l4 hk1 hk2
    · exact law4_2 ao bo co eo D1 I1 D2 I2 ac bc cc ec w hD1 hI1 hD2 hI2 l1 l2 l3 l4 hk1 hk2
  · exact law4_1 ao bo co eo D1 I1 D2 I2 ac bc cc ec w hD1 hI1 hD2 hI2 l1 l2 l3 l4 hk1
end Go.Proofs.Qxb6618170a
