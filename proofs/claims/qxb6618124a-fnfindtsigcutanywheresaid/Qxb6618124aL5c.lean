import Derived.Test.Qxb6618124aL5
namespace Go.Proofs.Qxb6618124a
open Go.RowKit

attribute [local go_sem ↓] Go.wp_at_zero Go.wp_at_succ
set_option linter.unusedVariables false

set_option maxRecDepth 100000 in
set_option maxHeartbeats 2000000 in
theorem law5_c (h0 h1 h2 h3 h4 h5 : Int) (qo : Option Addr) (qs : List Qc) (qc : Nat) (ao bo co : Option Addr) (rs us ds : List Rc) (ac bc cc : Nat) (j : Int) (w : World) (hqs : Qs w qo qs) (hr : Recs w ao rs) (hu : Recs w bo us) (hd : Recs w co ds)
    (nq : qo = none → qs = [] ∧ qc = 0) (nr : ao = none → rs = [] ∧ ac = 0) (nu : bo = none → us = [] ∧ bc = 0) (nd : co = none → ds = [] ∧ cc = 0)
    (lq : qs.length ≤ maxLen) (lr : rs.length ≤ maxLen) (lu : us.length ≤ maxLen) (ld : ds.length ≤ maxLen) (gr : Goods w rs) (gu : Goods w us) (gd : Goods w ds) (hds : ds = []) (hus : us = []) (hrs : rs ≠ []) :
    Calls Try.prog 5 #[.agg #[.int .u16 h0, .int .u16 h1, .int .u16 h2, .int .u16 h3, .int .u16 h4, .int .u16 h5], .slice qo qs.length qc, .slice ao rs.length ac, .slice bo us.length bc, .slice co ds.length cc, .int .i64 j] w
      fun e w' => e = .returned (.bool true) ∧ Below w.heap.size w w' := by
  have Hhds := hid hds
  have Hhus := hid hus
  have Hhrs := hid hrs
  clear hds hus hrs
  go_enter Try.func5, Try.ntmps5
  go_wp2_with fail
  obtain ⟨wb, hwb⟩ : ∃ wb, wb = w.alloc (.cells #[.int .u16 h0, .int .u16 h1, .int .u16 h2, .int .u16 h3, .int .u16 h4, .int .u16 h5] 24) := ⟨_, rfl⟩
  rw [← hwb]
  have hbb : Below w.heap.size w wb := by rw [hwb]; exact below_alloc1 _ _
  have hHb : AtH wb w.heap.size h0 h1 h2 h3 h4 h5 := by rw [hwb]; constructor <;> simp
  have hzb : w.heap.size + 1 ≤ wb.heap.size := by rw [hwb]; simp
  have B0 := Base4.mk0 hqs hr hu hd hbb
  clear hwb
  refine (bytes_cut h0 h1 h2 h3 h4 h5 qo qs.length qc ao bo co rs us ds ac bc cc j wb B0.r B0.u B0.d lq lr lu ld).mono ?_
  rintro e w1 ⟨⟨b, rfl⟩, hb1⟩
  have hB1 := hbb.trans (hb1.mono (by omega))
  have B1 := Base4.mk0 hqs hr hu hd hB1
  have hH1 := hHb.below hb1 (by omega)
  have hz1 : w.heap.size + 1 ≤ w1.heap.size := by have := hb1.size; omega
  clear hb1 hHb B0 hbb hzb
  cases b with
  | false =>
    go_wp2
    go_ret
    exact ⟨rfl, hB1⟩
  | true =>
    go_wp2_with fail
    refine (msg_bytes qo qs.length qc ao bo co rs us ds ac bc cc w1 B1.r B1.u B1.d lq lr lu ld).mono ?_
    rintro e w2 ⟨hw, z, rfl, hz, hzz⟩
    subst hw
    obtain ⟨k0, k1, k2, k3, k4, k5⟩ := hH1
    by_cases cz : 1048576 < z
    · go_wp2
      go_ret
      exact ⟨rfl, hB1⟩
    have hlen : 16 * (qs.length : Int) + 48 * (rs.length + us.length + ds.length) ≤ 1048576 := by have := hzz (by omega); omega
    clear hzz
    have CJ := join_any ao bo co rs us ds ac bc cc w1 B1.r B1.u B1.d (by omega)
    obtain ⟨N, hN⟩ : ∃ N, rs.length + us.length + ds.length = N := ⟨_, rfl⟩
    obtain ⟨A, hA⟩ : ∃ A, rs ++ us ++ ds = A := ⟨_, rfl⟩
    rw [hN, hA] at CJ
    have hAN : A.length = N := by rw [← hA, ← hN]; simp; omega
    have HA : Hid (rs ++ us ++ ds = A) := hA
    have hNb : N ≤ 21846 := by omega
    have HAN : Hid (A.length = N) := hAN
    have HN : Hid (rs.length + us.length + ds.length = N) := hN
    have HCJ := hid CJ
    clear hA hAN hN CJ
    go_wp2_with fail
    refine HCJ.out.mono ?_
    rintro e w3 ⟨rfl, hR3, hb3, hz3⟩
    clear HCJ
    by_cases cj : j < 0
    · go_wp2
      go_ret
      exact ⟨rfl, hB1.trans (hb3.mono (by omega))⟩
    by_cases cj2 : (N : Int) < j
    · go_wp2
      go_ret
      exact ⟨rfl, hB1.trans (hb3.mono (by omega))⟩
    obtain ⟨J, rfl⟩ := Int.eq_ofNat_of_zero_le (show 0 ≤ j by omega)
    have hJ : J ≤ N := by omega
    have hB3 := hB1.trans (hb3.mono (by omega))
    have B3 := Base4.mk0 hqs hr hu hd hB3
    have hH3 : AtH w3 w.heap.size h0 h1 h2 h3 h4 h5 := (AtH.mk k0 k1 k2 k3 k4 k5).below hb3 (by omega)
    clear hb3 B1 k0 k1 k2 k3 k4 k5
    obtain ⟨k0, k1, k2, k3, k4, k5⟩ := hH3
    go_wp2_with fail
    refine (msg_any h0 h1 h2 h3 h4 h5 qo qs qc ao bo co rs us ds ac bc cc w3 B3.q B3.r B3.u B3.d nq nr nu nd (by omega) (by omega) (by omega) (by omega)).mono ?_
    rintro e w4 ⟨⟨mb, a7, a8, a9, rfl, hM⟩, hb4⟩
    have hR4 := hR3.below hb4 hR3.block
    have hB4 := hB3.trans (hb4.mono (by omega))
    have hz4 : w1.heap.size < w4.heap.size := by have := hb4.size; omega
    clear hb4 hR3 k0 k1 k2 k3 k4 k5 B3
    go_wp2_with fail
    refine (zfind_any mb a7 a8 a9 rs.length us.length ds.length rs us ds w4 hM.r7 hM.r8 hM.r9 hM.c7 hM.c8 hM.c9 (by omega) (by omega) (by omega)).mono ?_
    rintro e w5 ⟨rfl, hb5⟩
    have hR5 := hR4.below hb5 hR4.block
    have hB5 := hB4.trans (hb5.mono (by omega))
    have hz5 : w1.heap.size < w5.heap.size := by have := hb5.size; omega
    clear hb5 hM hR4 hB4 hB3
    obtain ⟨r0, s0c, n0, e01, e02, e03⟩ : ∃ r s n, (findP rs us ds).r = r ∧ (findP rs us ds).sec = s ∧ (findP rs us ds).n = n := ⟨_, _, _, rfl, rfl, rfl⟩
    rw [e01, e02, e03]
    have E0 := hid (And.intro e01 (And.intro e02 e03))
    clear e01 e02 e03
    obtain ⟨u0, hu0⟩ : ∃ u, u = w5.alloc (.cells #[.int .i64 r0.off, .int .u16 r0.ty, .int .u16 r0.cls, .int .u32 r0.ttl, .int .i64 r0.doff, .slice r0.da r0.dl r0.dc] 53) := ⟨_, rfl⟩
    have hbu0 : Below w5.heap.size w5 u0 := by rw [hu0]; exact below_alloc1 _ _
    have hK0_0 : At6 u0 w5.heap.size 0 r0 := by rw [hu0]; exact at6_alloc _ _ _
    have Hu0 := hid hu0
    have hR0 := hR5.below hbu0 hR5.block
    have hBu0 := hB5.trans (hbu0.mono (by omega))
    have hg0 : w1.heap.size < u0.heap.size := by have := hbu0.size; omega
    clear hu0 hbu0 hR5 hB5 hz5 hz4 hz3
    have hJN : (J : Int) ≤ (N : Int) := by omega
    have hgood : Goods w A := by
      intro r hr
      rw [← HA.out] at hr
      simp only [List.mem_append] at hr
      rcases hr with (hr | hr) | hr
      · exact gr r hr
      · exact gu r hr
      · exact gd r hr
    have hds := Hhds.out
    have hus := Hhus.out
    have hrs := Hhrs.out
    have hall : A[N - 1]? = some r0 ∧ s0c = 0 ∧ n0 = (A.countP isT : Nat) ∧ 0 < N := by
      have key : (rs ++ us ++ ds)[(rs ++ us ++ ds).length - 1]? = some (findP rs us ds).r ∧ (findP rs us ds).sec = 0 ∧ (findP rs us ds).n = ((rs ++ us ++ ds).countP isT : Nat) ∧ 0 < (rs ++ us ++ ds).length := by subst hds hus; exact all_last_c rs hrs
      rw [HA.out, HAN.out, E0.out.1, E0.out.2.1, E0.out.2.2] at key
      exact key
    obtain ⟨hxn, hsc, hn0, hNpos⟩ := hall
    clear E0
    have Hn0 := hid hn0
    clear hn0
    subst hsc
    have hd0 : ((ds.length : Int) == 0) = true := by simp [hds]
    have hu0 : ((us.length : Int) == 0) = true := by simp [hus]
    clear hds hus hrs
    have hlen1 : (A.take J).length = J := by rw [List.length_take, HAN.out]; omega
    have C15 := rrs_any (some ⟨w1.heap.size, 0, none⟩) (A.take J) N u0 (recs_take hR0 J) (fun hh => by cases hh) (by rw [hlen1]; omega)
    rw [hlen1] at C15
    have Hlen1 := hid hlen1
    have H15 := hid C15
    clear C15 hlen1
    go_wp2_with fail
    rw [← Hu0.out]
    refine H15.out.mono ?_
    rintro e s1 ⟨a1, rfl, hT1, _, hx1⟩
    clear H15
    go_wp2_with fail
    obtain ⟨t1, ht1⟩ : ∃ t, t = s1.alloc (.cells #[.int .u16 0, .int .u16 0, .int .u16 0, .int .u16 0, .int .u16 0, .int .u16 0, .slice none 0 0, .slice none 0 0, .slice none 0 0, .slice a1 J J] 50) := ⟨_, rfl⟩
    rw [← ht1]
    have hT1' : Recs t1 a1 (A.take J) := by rw [ht1]; exact hT1.alloc _
    have q7 : t1.cell? ⟨s1.heap.size, 7, none⟩ = some (.slice none ([] : List Rc).length 0) := by rw [ht1]; simp
    have q8 : t1.cell? ⟨s1.heap.size, 8, none⟩ = some (.slice none ([] : List Rc).length 0) := by rw [ht1]; simp
    have q9 : t1.cell? ⟨s1.heap.size, 9, none⟩ = some (.slice a1 (A.take J).length J) := by rw [ht1, Hlen1.out]; simp
    have hy1 : Below u0.heap.size u0 t1 := by rw [ht1]; exact hx1.alloc hx1.size _
    clear ht1 hT1 hx1
    refine (zfind_any s1.heap.size none none a1 0 0 J [] [] (A.take J) t1 (.inl rfl) (.inl rfl) hT1' q7 q8 q9 (by simp) (by simp) (by rw [Hlen1.out]; omega)).mono ?_
    rintro e v1 ⟨rfl, hw1⟩
    have hv1 := hy1.trans (hw1.mono hy1.size)
    clear q7 q8 q9 hT1' hy1 hw1
    obtain ⟨r1, s1c, n1, e11, e12, e13⟩ : ∃ r s n, (findP [] [] (A.take J)).r = r ∧ (findP [] [] (A.take J)).sec = s ∧ (findP [] [] (A.take J)).n = n := ⟨_, _, _, rfl, rfl, rfl⟩
    rw [e11, e12, e13]
    have E1 := hid (And.intro e11 (And.intro e12 e13))
    clear e11 e12 e13
    have hR1v := hR0.below hv1 hR0.block
    have hB1v := hBu0.trans (hv1.mono hBu0.size)
    have hg1v : w1.heap.size < v1.heap.size := by have := hv1.size; omega
    have hK1v0 := hK0_0.below hv1 (World.block_lt_of_cell? u0 _ hK0_0.c0)
    obtain ⟨u1, hu1⟩ : ∃ u, u = v1.alloc (.cells #[.int .i64 r1.off, .int .u16 r1.ty, .int .u16 r1.cls, .int .u32 r1.ttl, .int .i64 r1.doff, .slice r1.da r1.dl r1.dc] 53) := ⟨_, rfl⟩
    have hbu1 : Below v1.heap.size v1 u1 := by rw [hu1]; exact below_alloc1 _ _
    have hK1_1 : At6 u1 v1.heap.size 0 r1 := by rw [hu1]; exact at6_alloc _ _ _
    have Hu1 := hid hu1
    have hR1 := hR1v.below hbu1 hR1v.block
    have hBu1 := hB1v.trans (hbu1.mono hB1v.size)
    have hg1 : w1.heap.size < u1.heap.size := by have := hbu1.size; omega
    have hK1_0 := hK1v0.below hbu1 (World.block_lt_of_cell? v1 _ hK1v0.c0)
    clear hu1 hbu1 hR1v hB1v hv1 hK1v0
    clear gr gu gd hr hu hd hqs nq nr nu nd lq lr lu ld hlen
    have hsplit : (A.countP isT : Nat) = (A.take J).countP isT + (A.drop J).countP isT := by rw [← List.countP_append, List.take_append_drop]
    have hc1 : (A.take J).countP isT ≤ N := by have := List.countP_le_length (p := isT) (l := A.take J); have := Hlen1.out; omega
    have Hsplit := hid hsplit
    clear hsplit
    by_cases hJN2 : J < N
    · have hcut : ¬ N = J := by omega
      have hlen2 : (A.drop J).length = N - J := by rw [List.length_drop, HAN.out]
      have C15 := rrs_any (some ⟨w1.heap.size, J * 6, none⟩) (A.drop J) (N - J) u1 (recs_drop hR1 J (by rw [HAN.out]; exact hJN2)) (fun hh => by cases hh) (by rw [hlen2]; omega)
      rw [hlen2] at C15
      have Hlen2 := hid hlen2
      have H15 := hid C15
      clear C15 hlen2
      go_wp2_with fail
      rw [← Hu1.out]
      refine H15.out.mono ?_
      rintro e s2 ⟨a2, rfl, hT2, _, hx2⟩
      clear H15
      go_wp2_with fail
      obtain ⟨t2, ht2⟩ : ∃ t, t = s2.alloc (.cells #[.int .u16 0, .int .u16 0, .int .u16 0, .int .u16 0, .int .u16 0, .int .u16 0, .slice none 0 0, .slice none 0 0, .slice none 0 0, .slice a2 (N - J) (N - J)] 50) := ⟨_, rfl⟩
      rw [← ht2]
      have hT2' : Recs t2 a2 (A.drop J) := by rw [ht2]; exact hT2.alloc _
      have q7 : t2.cell? ⟨s2.heap.size, 7, none⟩ = some (.slice none ([] : List Rc).length 0) := by rw [ht2]; simp
      have q8 : t2.cell? ⟨s2.heap.size, 8, none⟩ = some (.slice none ([] : List Rc).length 0) := by rw [ht2]; simp
      have q9 : t2.cell? ⟨s2.heap.size, 9, none⟩ = some (.slice a2 (A.drop J).length (N - J)) := by rw [ht2, Hlen2.out]; simp
      have hy2 : Below u1.heap.size u1 t2 := by rw [ht2]; exact hx2.alloc hx2.size _
      clear ht2 hT2 hx2
      refine (zfind_any s2.heap.size none none a2 0 0 (N - J) [] [] (A.drop J) t2 (.inl rfl) (.inl rfl) hT2' q7 q8 q9 (by simp) (by simp) (by rw [Hlen2.out]; omega)).mono ?_
      rintro e v2 ⟨rfl, hw2⟩
      have hv2 := hy2.trans (hw2.mono hy2.size)
      clear q7 q8 q9 hT2' hy2 hw2
      obtain ⟨r2, s2c, n2, e21, e22, e23⟩ : ∃ r s n, (findP [] [] (A.drop J)).r = r ∧ (findP [] [] (A.drop J)).sec = s ∧ (findP [] [] (A.drop J)).n = n := ⟨_, _, _, rfl, rfl, rfl⟩
      rw [e21, e22, e23]
      have E2 := hid (And.intro e21 (And.intro e22 e23))
      clear e21 e22 e23
      have hR2v := hR1.below hv2 hR1.block
      have hB2v := hBu1.trans (hv2.mono hBu1.size)
      have hg2v : w1.heap.size < v2.heap.size := by have := hv2.size; omega
      have hK2v0 := hK1_0.below hv2 (World.block_lt_of_cell? u1 _ hK1_0.c0)
      have hK2v1 := hK1_1.below hv2 (World.block_lt_of_cell? u1 _ hK1_1.c0)
      obtain ⟨u2, hu2⟩ : ∃ u, u = v2.alloc (.cells #[.int .i64 r2.off, .int .u16 r2.ty, .int .u16 r2.cls, .int .u32 r2.ttl, .int .i64 r2.doff, .slice r2.da r2.dl r2.dc] 53) := ⟨_, rfl⟩
      have hbu2 : Below v2.heap.size v2 u2 := by rw [hu2]; exact below_alloc1 _ _
      have hK2_2 : At6 u2 v2.heap.size 0 r2 := by rw [hu2]; exact at6_alloc _ _ _
      have Hu2 := hid hu2
      have hR2 := hR2v.below hbu2 hR2v.block
      have hBu2 := hB2v.trans (hbu2.mono hB2v.size)
      have hg2 : w1.heap.size < u2.heap.size := by have := hbu2.size; omega
      have hK2_0 := hK2v0.below hbu2 (World.block_lt_of_cell? v2 _ hK2v0.c0)
      have hK2_1 := hK2v1.below hbu2 (World.block_lt_of_cell? v2 _ hK2v1.c0)
      clear hu2 hbu2 hR2v hB2v hv2 hK2v0 hK2v1
      obtain ⟨xj, hxj⟩ : ∃ x, A[J]? = some x := ⟨A[J]'(by rw [HAN.out]; exact hJN2), by simp⟩
      have h2 : r0 = r2 ∧ 2 = s2c ∧ ((A.drop J).countP isT : Nat) = n2 := by
        have hne : A.drop J ≠ [] := by intro h; have := Hlen2.out; rw [h] at this; simp at this; omega
        have k := findP_one (A.drop J) hne
        rw [E2.out.1, E2.out.2.1, E2.out.2.2] at k
        have l := last_drop (A := A) (J := J) (by rw [HAN.out]; exact hJN2) hne
        rw [HAN.out, hxn] at l
        exact ⟨(Option.some.inj l).trans k.1.symm, k.2.1.symm, k.2.2.symm⟩
      obtain ⟨g1, g2, g3⟩ := h2
      subst g1 g2
      have hc2 : (A.drop J).countP isT ≤ N := by have := List.countP_le_length (p := isT) (l := A.drop J); have := Hlen2.out; omega
      clear E2
      by_cases hJ0 : 0 < J
      · skip
        obtain ⟨hxj1, g4, g5⟩ : A[J - 1]? = some r1 ∧ 2 = s1c ∧ ((A.take J).countP isT : Nat) = n1 := by
          have hne : A.take J ≠ [] := by intro h; have := Hlen1.out; rw [h] at this; simp at this; omega
          have k := findP_one (A.take J) hne
          rw [E1.out.1, E1.out.2.1, E1.out.2.2] at k
          have l := last_take (A := A) (J := J) (by rw [HAN.out]; exact hJ) hJ0 hne
          rw [← k.1] at l
          exact ⟨l, k.2.1.symm, k.2.2.symm⟩
        subst g4
        clear E1
        have hn1 : 0 ≤ n1 ∧ n1 ≤ (N : Int) := by omega
        have hn2 : 0 ≤ n2 ∧ n2 ≤ (N : Int) := by omega
        obtain rfl : n0 = n1 + n2 := by rw [Hn0.out, Hsplit.out, ← g3, ← g5]; simp
        clear g3 g5 Hn0 Hsplit hc1 hc2
        go_wp2
        rw [← Hu2.out]
        have ia2b : (0 : Int) ≤ (N : Int) - 1 := by omega
        have ib2b : (N : Int) - 1 < (N : Int) := by omega
        have ic2b : IntKind.i64.wrap ((N : Int) - 1) = (N : Int) - 1 := wrap_small _ (by omega) (by omega)
        have id2b : ((N : Int) - 1).toNat = N - 1 := by omega
        have ie2b : (1 : Int) ≤ (N : Int) := by omega
        have if2b : 1 ≤ N := by omega
        have ig2b : (N : Int) < (N : Int) + 1 := by omega
        have S2b := keepO_of hK2_0 (recs_at hR2 (N - 1) r0 hxn)
        have hD2b := (hgood r0 (List.mem_of_getElem? hxn)).1.below hBu2 (Nat.le_refl _)
        have hD2bl := (hgood r0 (List.mem_of_getElem? hxn)).2
        go_region_held3 (fun W => W.cell? ⟨w5.heap.size, 0, none⟩ = some (.int .i64 r0.off) ∧ W.cell? ⟨w5.heap.size, 1, none⟩ = some (.int .u16 r0.ty) ∧ W.cell? ⟨w5.heap.size, 2, none⟩ = some (.int .u16 r0.cls) ∧ W.cell? ⟨w5.heap.size, 3, none⟩ = some (.int .u32 r0.ttl) ∧ W.cell? ⟨w5.heap.size, 4, none⟩ = some (.int .i64 r0.doff) ∧ W.cell? ⟨w5.heap.size, 5, none⟩ = some (.slice r0.da r0.dl r0.dc) ∧ W.cell? ⟨w1.heap.size, (N - 1) * 6, none⟩ = some (.int .i64 r0.off) ∧ W.cell? ⟨w1.heap.size, (N - 1) * 6 + 1, none⟩ = some (.int .u16 r0.ty) ∧ W.cell? ⟨w1.heap.size, (N - 1) * 6 + 2, none⟩ = some (.int .u16 r0.cls) ∧ W.cell? ⟨w1.heap.size, (N - 1) * 6 + 3, none⟩ = some (.int .u32 r0.ttl) ∧ W.cell? ⟨w1.heap.size, (N - 1) * 6 + 4, none⟩ = some (.int .i64 r0.doff) ∧ W.cell? ⟨w1.heap.size, (N - 1) * 6 + 5, none⟩ = some (.slice r0.da r0.dl r0.dc)) (first | assumption | exact keepO S2b ((Below.refl _ _).drew))
          (first
            | (go_at_call 21; refine (rr_any r0 _).mono ?_; rintro e wA2b ⟨rfl, hA2b⟩
               have SA2b := keepO S2b (below_undrew hA2b)
               have hDA2b := hD2b.below (below_undrew hA2b) (Nat.le_refl _))
            | (go_at_call 20; refine (eqRR_self r0 _ hDA2b hD2bl).mono ?_; rintro e u2b ⟨rfl, hC2b⟩
               have SC2b := keepO SA2b hC2b
               have hv2b := (below_undrew hA2b).trans (hC2b.mono (below_undrew hA2b).size)))
        have hR2b := hR2.below hv2b hR2.block
        have hBu2b := hBu2.trans (hv2b.mono hBu2.size)
        have hg2b : w1.heap.size < u2b.heap.size := by have := hv2b.size; omega
        have hK2b_0 := hK2_0.below hv2b (World.block_lt_of_cell? u2 _ hK2_0.c0)
        have hK2b_1 := hK2_1.below hv2b (World.block_lt_of_cell? u2 _ hK2_1.c0)
        have hK2b_2 := hK2_2.below hv2b (World.block_lt_of_cell? u2 _ hK2_2.c0)
        clear S2b SA2b SC2b hD2b hDA2b hv2b hA2b hC2b ia2b ib2b ic2b id2b ie2b if2b ig2b
        go_wp2
        have ia2c : (0 : Int) ≤ (J : Int) - 1 := by omega
        have ib2c : (J : Int) - 1 < (N : Int) := by omega
        have ic2c : IntKind.i64.wrap ((J : Int) - 1) = (J : Int) - 1 := wrap_small _ (by omega) (by omega)
        have id2c : ((J : Int) - 1).toNat = J - 1 := by omega
        have ie2c : (1 : Int) ≤ (J : Int) := by omega
        have if2c : 1 ≤ J := by omega
        have ig2c : (J : Int) < (N : Int) + 1 := by omega
        have S2c := keepO_of hK2b_1 (recs_at hR2b (J - 1) r1 hxj1)
        have hD2c := (hgood r1 (List.mem_of_getElem? hxj1)).1.below hBu2b (Nat.le_refl _)
        have hD2cl := (hgood r1 (List.mem_of_getElem? hxj1)).2
        go_region_held3 (fun W => W.cell? ⟨v1.heap.size, 0, none⟩ = some (.int .i64 r1.off) ∧ W.cell? ⟨v1.heap.size, 1, none⟩ = some (.int .u16 r1.ty) ∧ W.cell? ⟨v1.heap.size, 2, none⟩ = some (.int .u16 r1.cls) ∧ W.cell? ⟨v1.heap.size, 3, none⟩ = some (.int .u32 r1.ttl) ∧ W.cell? ⟨v1.heap.size, 4, none⟩ = some (.int .i64 r1.doff) ∧ W.cell? ⟨v1.heap.size, 5, none⟩ = some (.slice r1.da r1.dl r1.dc) ∧ W.cell? ⟨w1.heap.size, (J - 1) * 6, none⟩ = some (.int .i64 r1.off) ∧ W.cell? ⟨w1.heap.size, (J - 1) * 6 + 1, none⟩ = some (.int .u16 r1.ty) ∧ W.cell? ⟨w1.heap.size, (J - 1) * 6 + 2, none⟩ = some (.int .u16 r1.cls) ∧ W.cell? ⟨w1.heap.size, (J - 1) * 6 + 3, none⟩ = some (.int .u32 r1.ttl) ∧ W.cell? ⟨w1.heap.size, (J - 1) * 6 + 4, none⟩ = some (.int .i64 r1.doff) ∧ W.cell? ⟨w1.heap.size, (J - 1) * 6 + 5, none⟩ = some (.slice r1.da r1.dl r1.dc)) (first | assumption | exact keepO S2c ((Below.refl _ _).drew))
          (first
            | (go_at_call 21; refine (rr_any r1 _).mono ?_; rintro e wA2c ⟨rfl, hA2c⟩
               have SA2c := keepO S2c (below_undrew hA2c)
               have hDA2c := hD2c.below (below_undrew hA2c) (Nat.le_refl _))
            | (go_at_call 20; refine (eqRR_self r1 _ hDA2c hD2cl).mono ?_; rintro e u2c ⟨rfl, hC2c⟩
               have SC2c := keepO SA2c hC2c
               have hv2c := (below_undrew hA2c).trans (hC2c.mono (below_undrew hA2c).size)))
        have hR2c := hR2b.below hv2c hR2b.block
        have hBu2c := hBu2b.trans (hv2c.mono hBu2b.size)
        have hg2c : w1.heap.size < u2c.heap.size := by have := hv2c.size; omega
        have hK2c_0 := hK2b_0.below hv2c (World.block_lt_of_cell? u2b _ hK2b_0.c0)
        have hK2c_1 := hK2b_1.below hv2c (World.block_lt_of_cell? u2b _ hK2b_1.c0)
        have hK2c_2 := hK2b_2.below hv2c (World.block_lt_of_cell? u2b _ hK2b_2.c0)
        clear S2c SA2c SC2c hD2c hDA2c hv2c hA2c hC2c ia2c ib2c ic2c id2c ie2c if2c ig2c
        have hlen3 : ([xj]).length = 1 := by rfl
        have C15 := rrs_any (some ⟨w1.heap.size, J * 6, none⟩) ([xj]) (N - J) u2c (recs_one hR2c J xj hxj) (fun hh => by cases hh) (by rw [hlen3]; omega)
        rw [hlen3] at C15
        have Hlen3 := hid hlen3
        have H15 := hid C15
        clear C15 hlen3
        go_wp2_with fail
        refine H15.out.mono ?_
        rintro e s3 ⟨a3, rfl, hT3, _, hx3⟩
        clear H15
        go_wp2_with fail
        obtain ⟨t3, ht3⟩ : ∃ t, t = s3.alloc (.cells #[.int .u16 0, .int .u16 0, .int .u16 0, .int .u16 0, .int .u16 0, .int .u16 0, .slice none 0 0, .slice none 0 0, .slice none 0 0, .slice a3 1 1] 50) := ⟨_, rfl⟩
        rw [← ht3]
        have hT3' : Recs t3 a3 ([xj]) := by rw [ht3]; exact hT3.alloc _
        have q7 : t3.cell? ⟨s3.heap.size, 7, none⟩ = some (.slice none ([] : List Rc).length 0) := by rw [ht3]; simp
        have q8 : t3.cell? ⟨s3.heap.size, 8, none⟩ = some (.slice none ([] : List Rc).length 0) := by rw [ht3]; simp
        have q9 : t3.cell? ⟨s3.heap.size, 9, none⟩ = some (.slice a3 ([xj]).length 1) := by rw [ht3, Hlen3.out]; simp
        have hy3 : Below u2c.heap.size u2c t3 := by rw [ht3]; exact hx3.alloc hx3.size _
        clear ht3 hT3 hx3
        refine (zfind_any s3.heap.size none none a3 0 0 1 [] [] ([xj]) t3 (.inl rfl) (.inl rfl) hT3' q7 q8 q9 (by simp) (by simp) (by rw [Hlen3.out]; omega)).mono ?_
        rintro e v3 ⟨rfl, hw3⟩
        have hv3 := hy3.trans (hw3.mono hy3.size)
        clear q7 q8 q9 hT3' hy3 hw3
        obtain ⟨r3, s3c, n3, e31, e32, e33⟩ : ∃ r s n, (findP [] [] ([xj])).r = r ∧ (findP [] [] ([xj])).sec = s ∧ (findP [] [] ([xj])).n = n := ⟨_, _, _, rfl, rfl, rfl⟩
        rw [e31, e32, e33]
        have E3 := hid (And.intro e31 (And.intro e32 e33))
        clear e31 e32 e33
        have hR3v := hR2c.below hv3 hR2c.block
        have hB3v := hBu2c.trans (hv3.mono hBu2c.size)
        have hg3v : w1.heap.size < v3.heap.size := by have := hv3.size; omega
        have hK3v0 := hK2c_0.below hv3 (World.block_lt_of_cell? u2c _ hK2c_0.c0)
        have hK3v1 := hK2c_1.below hv3 (World.block_lt_of_cell? u2c _ hK2c_1.c0)
        have hK3v2 := hK2c_2.below hv3 (World.block_lt_of_cell? u2c _ hK2c_2.c0)
        obtain ⟨u3, hu3⟩ : ∃ u, u = v3.alloc (.cells #[.int .i64 r3.off, .int .u16 r3.ty, .int .u16 r3.cls, .int .u32 r3.ttl, .int .i64 r3.doff, .slice r3.da r3.dl r3.dc] 53) := ⟨_, rfl⟩
        have hbu3 : Below v3.heap.size v3 u3 := by rw [hu3]; exact below_alloc1 _ _
        have hK3_3 : At6 u3 v3.heap.size 0 r3 := by rw [hu3]; exact at6_alloc _ _ _
        have Hu3 := hid hu3
        have hR3 := hR3v.below hbu3 hR3v.block
        have hBu3 := hB3v.trans (hbu3.mono hB3v.size)
        have hg3 : w1.heap.size < u3.heap.size := by have := hbu3.size; omega
        have hK3_0 := hK3v0.below hbu3 (World.block_lt_of_cell? v3 _ hK3v0.c0)
        have hK3_1 := hK3v1.below hbu3 (World.block_lt_of_cell? v3 _ hK3v1.c0)
        have hK3_2 := hK3v2.below hbu3 (World.block_lt_of_cell? v3 _ hK3v2.c0)
        clear hu3 hbu3 hR3v hB3v hv3 hK3v0 hK3v1 hK3v2
        obtain ⟨g7, g8, g9⟩ : xj = r3 ∧ 2 = s3c ∧ (([xj] : List Rc).countP isT : Nat) = n3 := by
          have k := findP_one [xj] (by simp)
          rw [E3.out.1, E3.out.2.1, E3.out.2.2] at k
          exact ⟨k.1.symm, k.2.1.symm, k.2.2.symm⟩
        subst g7 g8
        clear E3
        have hone : ((xj.ty == 250) = true ∧ n3 = 1) ∨ ((xj.ty == 250) = false ∧ n3 = 0) := by
          cases hop : (xj.ty == 250) with
          | true => left; refine ⟨rfl, ?_⟩; rw [← g9]; simp [isT, hop]
          | false => right; refine ⟨rfl, ?_⟩; rw [← g9]; simp [isT, hop]
        clear g9
        have hty := (recs_at hR3 J xj hxj).c1
        rw [Hu3.out] at hty
        rcases hone with ⟨hop, rfl⟩ | ⟨hop, rfl⟩
        all_goals
          go_wp2
          rw [← Hu3.out]
          clear hty
          have ia : (0 : Int) ≤ (N : Int) - 1 := by omega
          have ib : (N : Int) - 1 < (N : Int) := by omega
          have ic : IntKind.i64.wrap ((N : Int) - 1) = (N : Int) - 1 := wrap_small _ (by omega) (by omega)
          have id' : ((N : Int) - 1).toNat = N - 1 := by omega
          have ie : (J : Int) < (N : Int) := by omega
          have ig : (1 : Int) ≤ (N : Int) := by omega
          have ih : 1 ≤ N := by omega
          have iff' : (0 : Int) ≤ (J : Int) := by omega
          have S4 := keepQ_of hK3_2 (recs_at hR3 (N - 1) r0 hxn) hK3_3 (recs_at hR3 J xj hxj)
          have hD4 := (hgood r0 (List.mem_of_getElem? hxn)).1.below hBu3 (Nat.le_refl _)
          have hD4l := (hgood r0 (List.mem_of_getElem? hxn)).2
          have hF4 := (hgood xj (List.mem_of_getElem? hxj)).1.below hBu3 (Nat.le_refl _)
          have hF4l := (hgood xj (List.mem_of_getElem? hxj)).2
          go_region_held3 (fun W => W.cell? ⟨v2.heap.size, 0, none⟩ = some (.int .i64 r0.off) ∧ W.cell? ⟨v2.heap.size, 1, none⟩ = some (.int .u16 r0.ty) ∧ W.cell? ⟨v2.heap.size, 2, none⟩ = some (.int .u16 r0.cls) ∧ W.cell? ⟨v2.heap.size, 3, none⟩ = some (.int .u32 r0.ttl) ∧ W.cell? ⟨v2.heap.size, 4, none⟩ = some (.int .i64 r0.doff) ∧ W.cell? ⟨v2.heap.size, 5, none⟩ = some (.slice r0.da r0.dl r0.dc) ∧ W.cell? ⟨w1.heap.size, (N - 1) * 6, none⟩ = some (.int .i64 r0.off) ∧ W.cell? ⟨w1.heap.size, (N - 1) * 6 + 1, none⟩ = some (.int .u16 r0.ty) ∧ W.cell? ⟨w1.heap.size, (N - 1) * 6 + 2, none⟩ = some (.int .u16 r0.cls) ∧ W.cell? ⟨w1.heap.size, (N - 1) * 6 + 3, none⟩ = some (.int .u32 r0.ttl) ∧ W.cell? ⟨w1.heap.size, (N - 1) * 6 + 4, none⟩ = some (.int .i64 r0.doff) ∧ W.cell? ⟨w1.heap.size, (N - 1) * 6 + 5, none⟩ = some (.slice r0.da r0.dl r0.dc) ∧ W.cell? ⟨v3.heap.size, 0, none⟩ = some (.int .i64 xj.off) ∧ W.cell? ⟨v3.heap.size, 1, none⟩ = some (.int .u16 xj.ty) ∧ W.cell? ⟨v3.heap.size, 2, none⟩ = some (.int .u16 xj.cls) ∧ W.cell? ⟨v3.heap.size, 3, none⟩ = some (.int .u32 xj.ttl) ∧ W.cell? ⟨v3.heap.size, 4, none⟩ = some (.int .i64 xj.doff) ∧ W.cell? ⟨v3.heap.size, 5, none⟩ = some (.slice xj.da xj.dl xj.dc) ∧ W.cell? ⟨w1.heap.size, J * 6, none⟩ = some (.int .i64 xj.off) ∧ W.cell? ⟨w1.heap.size, J * 6 + 1, none⟩ = some (.int .u16 xj.ty) ∧ W.cell? ⟨w1.heap.size, J * 6 + 2, none⟩ = some (.int .u16 xj.cls) ∧ W.cell? ⟨w1.heap.size, J * 6 + 3, none⟩ = some (.int .u32 xj.ttl) ∧ W.cell? ⟨w1.heap.size, J * 6 + 4, none⟩ = some (.int .i64 xj.doff) ∧ W.cell? ⟨w1.heap.size, J * 6 + 5, none⟩ = some (.slice xj.da xj.dl xj.dc)) (first | assumption | exact keepQ S4 ((Below.refl _ _).drew))
            (first
              | (go_at_call_of 21 r0; refine (rr_any r0 _).mono ?_; rintro e wA4 ⟨rfl, hA4⟩
                 have SA4 := keepQ S4 (below_undrew hA4)
                 have hDA4 := hD4.below (below_undrew hA4) (Nat.le_refl _)
                 have hvA4 := below_undrew hA4)
              | (go_at_call_of 20 r0; refine (eqRR_self r0 _ hDA4 hD4l).mono ?_; rintro e wB4 ⟨rfl, hB4⟩
                 have SB4 := keepQ SA4 hB4
                 have hvB4 := hvA4.trans (hB4.mono hvA4.size))
              | (go_at_call_of 21 xj; refine (rr_any xj _).mono ?_; rintro e wC4 ⟨rfl, hC4⟩
                 have SC4 := keepQ SB4 hC4
                 have hvC4 := hvB4.trans (hC4.mono hvB4.size)
                 have hFC4 := hF4.below hvC4 (Nat.le_refl _))
              | (go_at_call_of 20 xj; refine (eqRR_self xj _ hFC4 hF4l).mono ?_; rintro e wD4 ⟨rfl, hD4'⟩
                 have SD4 := keepQ SC4 hD4'
                 have hvD4 := hvC4.trans (hD4'.mono hvC4.size)))
          go_wp2
          go_ret
          exact ⟨rfl, hBu3.trans (hvD4.mono hBu3.size)⟩
      · have hJ0i : ¬ (0 : Int) < (J : Int) := by omega
        obtain ⟨g4, g5, g6⟩ : (⟨0, 0, 0, 0, 0, none, 0, 0⟩ : Rc) = r1 ∧ 0 = s1c ∧ 0 = n1 := by
          have k := findP_none
          have e : A.take J = [] := by
            have hz : J = 0 := by omega
            rw [hz]; simp
          have E := E1.out
          rw [e] at E
          exact ⟨k.1.symm.trans E.1, k.2.1.symm.trans E.2.1, k.2.2.symm.trans E.2.2⟩
        subst g4 g5 g6
        clear E1
        have hn2 : 0 ≤ n2 ∧ n2 ≤ (N : Int) := by omega
        have eTk : A.take J = [] := by
          have hz : J = 0 := by omega
          rw [hz]; simp
        obtain rfl : n0 = 0 + n2 := by rw [Hn0.out, Hsplit.out, ← g3, eTk]; simp
        clear eTk
        clear g3 Hn0 Hsplit hc1 hc2
        go_wp2
        rw [← Hu2.out]
        have ia2b : (0 : Int) ≤ (N : Int) - 1 := by omega
        have ib2b : (N : Int) - 1 < (N : Int) := by omega
        have ic2b : IntKind.i64.wrap ((N : Int) - 1) = (N : Int) - 1 := wrap_small _ (by omega) (by omega)
        have id2b : ((N : Int) - 1).toNat = N - 1 := by omega
        have ie2b : (1 : Int) ≤ (N : Int) := by omega
        have if2b : 1 ≤ N := by omega
        have ig2b : (N : Int) < (N : Int) + 1 := by omega
        have S2b := keepO_of hK2_0 (recs_at hR2 (N - 1) r0 hxn)
        have hD2b := (hgood r0 (List.mem_of_getElem? hxn)).1.below hBu2 (Nat.le_refl _)
        have hD2bl := (hgood r0 (List.mem_of_getElem? hxn)).2
        go_region_held3 (fun W => W.cell? ⟨w5.heap.size, 0, none⟩ = some (.int .i64 r0.off) ∧ W.cell? ⟨w5.heap.size, 1, none⟩ = some (.int .u16 r0.ty) ∧ W.cell? ⟨w5.heap.size, 2, none⟩ = some (.int .u16 r0.cls) ∧ W.cell? ⟨w5.heap.size, 3, none⟩ = some (.int .u32 r0.ttl) ∧ W.cell? ⟨w5.heap.size, 4, none⟩ = some (.int .i64 r0.doff) ∧ W.cell? ⟨w5.heap.size, 5, none⟩ = some (.slice r0.da r0.dl r0.dc) ∧ W.cell? ⟨w1.heap.size, (N - 1) * 6, none⟩ = some (.int .i64 r0.off) ∧ W.cell? ⟨w1.heap.size, (N - 1) * 6 + 1, none⟩ = some (.int .u16 r0.ty) ∧ W.cell? ⟨w1.heap.size, (N - 1) * 6 + 2, none⟩ = some (.int .u16 r0.cls) ∧ W.cell? ⟨w1.heap.size, (N - 1) * 6 + 3, none⟩ = some (.int .u32 r0.ttl) ∧ W.cell? ⟨w1.heap.size, (N - 1) * 6 + 4, none⟩ = some (.int .i64 r0.doff) ∧ W.cell? ⟨w1.heap.size, (N - 1) * 6 + 5, none⟩ = some (.slice r0.da r0.dl r0.dc)) (first | assumption | exact keepO S2b ((Below.refl _ _).drew))
          (first
            | (go_at_call 21; refine (rr_any r0 _).mono ?_; rintro e wA2b ⟨rfl, hA2b⟩
               have SA2b := keepO S2b (below_undrew hA2b)
               have hDA2b := hD2b.below (below_undrew hA2b) (Nat.le_refl _))
            | (go_at_call 20; refine (eqRR_self r0 _ hDA2b hD2bl).mono ?_; rintro e u2b ⟨rfl, hC2b⟩
               have SC2b := keepO SA2b hC2b
               have hv2b := (below_undrew hA2b).trans (hC2b.mono (below_undrew hA2b).size)))
        have hR2b := hR2.below hv2b hR2.block
        have hBu2b := hBu2.trans (hv2b.mono hBu2.size)
        have hg2b : w1.heap.size < u2b.heap.size := by have := hv2b.size; omega
        have hK2b_0 := hK2_0.below hv2b (World.block_lt_of_cell? u2 _ hK2_0.c0)
        have hK2b_1 := hK2_1.below hv2b (World.block_lt_of_cell? u2 _ hK2_1.c0)
        have hK2b_2 := hK2_2.below hv2b (World.block_lt_of_cell? u2 _ hK2_2.c0)
        clear S2b SA2b SC2b hD2b hDA2b hv2b hA2b hC2b ia2b ib2b ic2b id2b ie2b if2b ig2b
        obtain ⟨z0, z1, z2, z3, z4, z5⟩ := hK2b_1.flat
        go_wp2_with fail
        refine (zeroRR_zero _).mono ?_
        rintro e u2c ⟨rfl, hv2c⟩
        clear z0 z1 z2 z3 z4 z5
        have hR2c := hR2b.below hv2c hR2b.block
        have hBu2c := hBu2b.trans (hv2c.mono hBu2b.size)
        have hg2c : w1.heap.size < u2c.heap.size := by have := hv2c.size; omega
        have hK2c_0 := hK2b_0.below hv2c (World.block_lt_of_cell? u2b _ hK2b_0.c0)
        have hK2c_1 := hK2b_1.below hv2c (World.block_lt_of_cell? u2b _ hK2b_1.c0)
        have hK2c_2 := hK2b_2.below hv2c (World.block_lt_of_cell? u2b _ hK2b_2.c0)
        clear hv2c
        have hlen3 : ([xj]).length = 1 := by rfl
        have C15 := rrs_any (some ⟨w1.heap.size, J * 6, none⟩) ([xj]) (N - J) u2c (recs_one hR2c J xj hxj) (fun hh => by cases hh) (by rw [hlen3]; omega)
        rw [hlen3] at C15
        have Hlen3 := hid hlen3
        have H15 := hid C15
        clear C15 hlen3
        go_wp2_with fail
        refine H15.out.mono ?_
        rintro e s3 ⟨a3, rfl, hT3, _, hx3⟩
        clear H15
        go_wp2_with fail
        obtain ⟨t3, ht3⟩ : ∃ t, t = s3.alloc (.cells #[.int .u16 0, .int .u16 0, .int .u16 0, .int .u16 0, .int .u16 0, .int .u16 0, .slice none 0 0, .slice none 0 0, .slice none 0 0, .slice a3 1 1] 50) := ⟨_, rfl⟩
        rw [← ht3]
        have hT3' : Recs t3 a3 ([xj]) := by rw [ht3]; exact hT3.alloc _
        have q7 : t3.cell? ⟨s3.heap.size, 7, none⟩ = some (.slice none ([] : List Rc).length 0) := by rw [ht3]; simp
        have q8 : t3.cell? ⟨s3.heap.size, 8, none⟩ = some (.slice none ([] : List Rc).length 0) := by rw [ht3]; simp
        have q9 : t3.cell? ⟨s3.heap.size, 9, none⟩ = some (.slice a3 ([xj]).length 1) := by rw [ht3, Hlen3.out]; simp
        have hy3 : Below u2c.heap.size u2c t3 := by rw [ht3]; exact hx3.alloc hx3.size _
        clear ht3 hT3 hx3
        refine (zfind_any s3.heap.size none none a3 0 0 1 [] [] ([xj]) t3 (.inl rfl) (.inl rfl) hT3' q7 q8 q9 (by simp) (by simp) (by rw [Hlen3.out]; omega)).mono ?_
        rintro e v3 ⟨rfl, hw3⟩
        have hv3 := hy3.trans (hw3.mono hy3.size)
        clear q7 q8 q9 hT3' hy3 hw3
        obtain ⟨r3, s3c, n3, e31, e32, e33⟩ : ∃ r s n, (findP [] [] ([xj])).r = r ∧ (findP [] [] ([xj])).sec = s ∧ (findP [] [] ([xj])).n = n := ⟨_, _, _, rfl, rfl, rfl⟩
        rw [e31, e32, e33]
        have E3 := hid (And.intro e31 (And.intro e32 e33))
        clear e31 e32 e33
        have hR3v := hR2c.below hv3 hR2c.block
        have hB3v := hBu2c.trans (hv3.mono hBu2c.size)
        have hg3v : w1.heap.size < v3.heap.size := by have := hv3.size; omega
        have hK3v0 := hK2c_0.below hv3 (World.block_lt_of_cell? u2c _ hK2c_0.c0)
        have hK3v1 := hK2c_1.below hv3 (World.block_lt_of_cell? u2c _ hK2c_1.c0)
        have hK3v2 := hK2c_2.below hv3 (World.block_lt_of_cell? u2c _ hK2c_2.c0)
        obtain ⟨u3, hu3⟩ : ∃ u, u = v3.alloc (.cells #[.int .i64 r3.off, .int .u16 r3.ty, .int .u16 r3.cls, .int .u32 r3.ttl, .int .i64 r3.doff, .slice r3.da r3.dl r3.dc] 53) := ⟨_, rfl⟩
        have hbu3 : Below v3.heap.size v3 u3 := by rw [hu3]; exact below_alloc1 _ _
        have hK3_3 : At6 u3 v3.heap.size 0 r3 := by rw [hu3]; exact at6_alloc _ _ _
        have Hu3 := hid hu3
        have hR3 := hR3v.below hbu3 hR3v.block
        have hBu3 := hB3v.trans (hbu3.mono hB3v.size)
        have hg3 : w1.heap.size < u3.heap.size := by have := hbu3.size; omega
        have hK3_0 := hK3v0.below hbu3 (World.block_lt_of_cell? v3 _ hK3v0.c0)
        have hK3_1 := hK3v1.below hbu3 (World.block_lt_of_cell? v3 _ hK3v1.c0)
        have hK3_2 := hK3v2.below hbu3 (World.block_lt_of_cell? v3 _ hK3v2.c0)
        clear hu3 hbu3 hR3v hB3v hv3 hK3v0 hK3v1 hK3v2
        obtain ⟨g7, g8, g9⟩ : xj = r3 ∧ 2 = s3c ∧ (([xj] : List Rc).countP isT : Nat) = n3 := by
          have k := findP_one [xj] (by simp)
          rw [E3.out.1, E3.out.2.1, E3.out.2.2] at k
          exact ⟨k.1.symm, k.2.1.symm, k.2.2.symm⟩
        subst g7 g8
        clear E3
        have hone : ((xj.ty == 250) = true ∧ n3 = 1) ∨ ((xj.ty == 250) = false ∧ n3 = 0) := by
          cases hop : (xj.ty == 250) with
          | true => left; refine ⟨rfl, ?_⟩; rw [← g9]; simp [isT, hop]
          | false => right; refine ⟨rfl, ?_⟩; rw [← g9]; simp [isT, hop]
        clear g9
        have hty := (recs_at hR3 J xj hxj).c1
        rw [Hu3.out] at hty
        rcases hone with ⟨hop, rfl⟩ | ⟨hop, rfl⟩
        all_goals
          go_wp2
          rw [← Hu3.out]
          clear hty
          have ia : (0 : Int) ≤ (N : Int) - 1 := by omega
          have ib : (N : Int) - 1 < (N : Int) := by omega
          have ic : IntKind.i64.wrap ((N : Int) - 1) = (N : Int) - 1 := wrap_small _ (by omega) (by omega)
          have id' : ((N : Int) - 1).toNat = N - 1 := by omega
          have ie : (J : Int) < (N : Int) := by omega
          have ig : (1 : Int) ≤ (N : Int) := by omega
          have ih : 1 ≤ N := by omega
          have iff' : (0 : Int) ≤ (J : Int) := by omega
          have S4 := keepQ_of hK3_2 (recs_at hR3 (N - 1) r0 hxn) hK3_3 (recs_at hR3 J xj hxj)
          have hD4 := (hgood r0 (List.mem_of_getElem? hxn)).1.below hBu3 (Nat.le_refl _)
          have hD4l := (hgood r0 (List.mem_of_getElem? hxn)).2
          have hF4 := (hgood xj (List.mem_of_getElem? hxj)).1.below hBu3 (Nat.le_refl _)
          have hF4l := (hgood xj (List.mem_of_getElem? hxj)).2
          go_region_held3 (fun W => W.cell? ⟨v2.heap.size, 0, none⟩ = some (.int .i64 r0.off) ∧ W.cell? ⟨v2.heap.size, 1, none⟩ = some (.int .u16 r0.ty) ∧ W.cell? ⟨v2.heap.size, 2, none⟩ = some (.int .u16 r0.cls) ∧ W.cell? ⟨v2.heap.size, 3, none⟩ = some (.int .u32 r0.ttl) ∧ W.cell? ⟨v2.heap.size, 4, none⟩ = some (.int .i64 r0.doff) ∧ W.cell? ⟨v2.heap.size, 5, none⟩ = some (.slice r0.da r0.dl r0.dc) ∧ W.cell? ⟨w1.heap.size, (N - 1) * 6, none⟩ = some (.int .i64 r0.off) ∧ W.cell? ⟨w1.heap.size, (N - 1) * 6 + 1, none⟩ = some (.int .u16 r0.ty) ∧ W.cell? ⟨w1.heap.size, (N - 1) * 6 + 2, none⟩ = some (.int .u16 r0.cls) ∧ W.cell? ⟨w1.heap.size, (N - 1) * 6 + 3, none⟩ = some (.int .u32 r0.ttl) ∧ W.cell? ⟨w1.heap.size, (N - 1) * 6 + 4, none⟩ = some (.int .i64 r0.doff) ∧ W.cell? ⟨w1.heap.size, (N - 1) * 6 + 5, none⟩ = some (.slice r0.da r0.dl r0.dc) ∧ W.cell? ⟨v3.heap.size, 0, none⟩ = some (.int .i64 xj.off) ∧ W.cell? ⟨v3.heap.size, 1, none⟩ = some (.int .u16 xj.ty) ∧ W.cell? ⟨v3.heap.size, 2, none⟩ = some (.int .u16 xj.cls) ∧ W.cell? ⟨v3.heap.size, 3, none⟩ = some (.int .u32 xj.ttl) ∧ W.cell? ⟨v3.heap.size, 4, none⟩ = some (.int .i64 xj.doff) ∧ W.cell? ⟨v3.heap.size, 5, none⟩ = some (.slice xj.da xj.dl xj.dc) ∧ W.cell? ⟨w1.heap.size, J * 6, none⟩ = some (.int .i64 xj.off) ∧ W.cell? ⟨w1.heap.size, J * 6 + 1, none⟩ = some (.int .u16 xj.ty) ∧ W.cell? ⟨w1.heap.size, J * 6 + 2, none⟩ = some (.int .u16 xj.cls) ∧ W.cell? ⟨w1.heap.size, J * 6 + 3, none⟩ = some (.int .u32 xj.ttl) ∧ W.cell? ⟨w1.heap.size, J * 6 + 4, none⟩ = some (.int .i64 xj.doff) ∧ W.cell? ⟨w1.heap.size, J * 6 + 5, none⟩ = some (.slice xj.da xj.dl xj.dc)) (first | assumption | exact keepQ S4 ((Below.refl _ _).drew))
            (first
              | (go_at_call_of 21 r0; refine (rr_any r0 _).mono ?_; rintro e wA4 ⟨rfl, hA4⟩
                 have SA4 := keepQ S4 (below_undrew hA4)
                 have hDA4 := hD4.below (below_undrew hA4) (Nat.le_refl _)
                 have hvA4 := below_undrew hA4)
              | (go_at_call_of 20 r0; refine (eqRR_self r0 _ hDA4 hD4l).mono ?_; rintro e wB4 ⟨rfl, hB4⟩
                 have SB4 := keepQ SA4 hB4
                 have hvB4 := hvA4.trans (hB4.mono hvA4.size))
              | (go_at_call_of 21 xj; refine (rr_any xj _).mono ?_; rintro e wC4 ⟨rfl, hC4⟩
                 have SC4 := keepQ SB4 hC4
                 have hvC4 := hvB4.trans (hC4.mono hvB4.size)
                 have hFC4 := hF4.below hvC4 (Nat.le_refl _))
              | (go_at_call_of 20 xj; refine (eqRR_self xj _ hFC4 hF4l).mono ?_; rintro e wD4 ⟨rfl, hD4'⟩
                 have SD4 := keepQ SC4 hD4'
                 have hvD4 := hvC4.trans (hD4'.mono hvC4.size)))
          go_wp2
          go_ret
          exact ⟨rfl, hBu3.trans (hvD4.mono hBu3.size)⟩
    · have hJe : J = N := by omega
      subst hJe
      have hJ0 : 0 < J := hNpos
      have hdropz : A.drop J = [] := List.drop_eq_nil_of_le (by rw [HAN.out]; exact Nat.le_refl _)
      have hlen2 : (([] : List Rc)).length = 0 := by rfl
      have C15 := rrs_any (some ⟨w1.heap.size, 0, none⟩) (([] : List Rc)) 0 u1 (.inl rfl) (fun hh => by cases hh) (by rw [hlen2]; omega)
      rw [hlen2] at C15
      have Hlen2 := hid hlen2
      have H15 := hid C15
      clear C15 hlen2
      go_wp2_with fail
      rw [← Hu1.out]
      refine H15.out.mono ?_
      rintro e s2 ⟨a2, rfl, hT2, _, hx2⟩
      clear H15
      go_wp2_with fail
      obtain ⟨t2, ht2⟩ : ∃ t, t = s2.alloc (.cells #[.int .u16 0, .int .u16 0, .int .u16 0, .int .u16 0, .int .u16 0, .int .u16 0, .slice none 0 0, .slice none 0 0, .slice none 0 0, .slice a2 0 0] 50) := ⟨_, rfl⟩
      rw [← ht2]
      have hT2' : Recs t2 a2 (([] : List Rc)) := by rw [ht2]; exact hT2.alloc _
      have q7 : t2.cell? ⟨s2.heap.size, 7, none⟩ = some (.slice none ([] : List Rc).length 0) := by rw [ht2]; simp
      have q8 : t2.cell? ⟨s2.heap.size, 8, none⟩ = some (.slice none ([] : List Rc).length 0) := by rw [ht2]; simp
      have q9 : t2.cell? ⟨s2.heap.size, 9, none⟩ = some (.slice a2 (([] : List Rc)).length 0) := by rw [ht2, Hlen2.out]; simp
      have hy2 : Below u1.heap.size u1 t2 := by rw [ht2]; exact hx2.alloc hx2.size _
      clear ht2 hT2 hx2
      refine (zfind_any s2.heap.size none none a2 0 0 0 [] [] (([] : List Rc)) t2 (.inl rfl) (.inl rfl) hT2' q7 q8 q9 (by simp) (by simp) (by rw [Hlen2.out]; omega)).mono ?_
      rintro e v2 ⟨rfl, hw2⟩
      have hv2 := hy2.trans (hw2.mono hy2.size)
      clear q7 q8 q9 hT2' hy2 hw2
      obtain ⟨r2, s2c, n2, e21, e22, e23⟩ : ∃ r s n, (findP [] [] (([] : List Rc))).r = r ∧ (findP [] [] (([] : List Rc))).sec = s ∧ (findP [] [] (([] : List Rc))).n = n := ⟨_, _, _, rfl, rfl, rfl⟩
      rw [e21, e22, e23]
      have E2 := hid (And.intro e21 (And.intro e22 e23))
      clear e21 e22 e23
      have hR2v := hR1.below hv2 hR1.block
      have hB2v := hBu1.trans (hv2.mono hBu1.size)
      have hg2v : w1.heap.size < v2.heap.size := by have := hv2.size; omega
      have hK2v0 := hK1_0.below hv2 (World.block_lt_of_cell? u1 _ hK1_0.c0)
      have hK2v1 := hK1_1.below hv2 (World.block_lt_of_cell? u1 _ hK1_1.c0)
      obtain ⟨u2, hu2⟩ : ∃ u, u = v2.alloc (.cells #[.int .i64 r2.off, .int .u16 r2.ty, .int .u16 r2.cls, .int .u32 r2.ttl, .int .i64 r2.doff, .slice r2.da r2.dl r2.dc] 53) := ⟨_, rfl⟩
      have hbu2 : Below v2.heap.size v2 u2 := by rw [hu2]; exact below_alloc1 _ _
      have hK2_2 : At6 u2 v2.heap.size 0 r2 := by rw [hu2]; exact at6_alloc _ _ _
      have Hu2 := hid hu2
      have hR2 := hR2v.below hbu2 hR2v.block
      have hBu2 := hB2v.trans (hbu2.mono hB2v.size)
      have hg2 : w1.heap.size < u2.heap.size := by have := hbu2.size; omega
      have hK2_0 := hK2v0.below hbu2 (World.block_lt_of_cell? v2 _ hK2v0.c0)
      have hK2_1 := hK2v1.below hbu2 (World.block_lt_of_cell? v2 _ hK2v1.c0)
      clear hu2 hbu2 hR2v hB2v hv2 hK2v0 hK2v1
      obtain ⟨g1, g2, g3⟩ : (⟨0, 0, 0, 0, 0, none, 0, 0⟩ : Rc) = r2 ∧ 0 = s2c ∧ 0 = n2 := ⟨E2.out.1, E2.out.2.1, E2.out.2.2⟩
      subst g1 g2 g3
      clear E2
      obtain ⟨hxj1, g4, g5⟩ : A[J - 1]? = some r1 ∧ 2 = s1c ∧ ((A.take J).countP isT : Nat) = n1 := by
        have hne : A.take J ≠ [] := by intro h; have := Hlen1.out; rw [h] at this; simp at this; omega
        have k := findP_one (A.take J) hne
        rw [E1.out.1, E1.out.2.1, E1.out.2.2] at k
        have l := last_take (A := A) (J := J) (by rw [HAN.out]; exact hJ) hJ0 hne
        rw [← k.1] at l
        exact ⟨l, k.2.1.symm, k.2.2.symm⟩
      subst g4
      clear E1
      have hn1 : 0 ≤ n1 ∧ n1 ≤ (J : Int) := by omega
      obtain rfl : n0 = n1 := by rw [Hn0.out, Hsplit.out, hdropz, ← g5]; simp
      clear g5 Hn0 Hsplit hc1 hdropz
      go_wp2
      rw [← Hu2.out]
      have ia2b : (0 : Int) ≤ (J : Int) - 1 := by omega
      have ib2b : (J : Int) - 1 < (J : Int) := by omega
      have ic2b : IntKind.i64.wrap ((J : Int) - 1) = (J : Int) - 1 := wrap_small _ (by omega) (by omega)
      have id2b : ((J : Int) - 1).toNat = J - 1 := by omega
      have ie2b : (1 : Int) ≤ (J : Int) := by omega
      have if2b : 1 ≤ J := by omega
      have ig2b : (J : Int) < (J : Int) + 1 := by omega
      have S2b := keepO_of hK2_0 (recs_at hR2 (J - 1) r0 hxn)
      have hD2b := (hgood r0 (List.mem_of_getElem? hxn)).1.below hBu2 (Nat.le_refl _)
      have hD2bl := (hgood r0 (List.mem_of_getElem? hxn)).2
      go_region_held3 (fun W => W.cell? ⟨w5.heap.size, 0, none⟩ = some (.int .i64 r0.off) ∧ W.cell? ⟨w5.heap.size, 1, none⟩ = some (.int .u16 r0.ty) ∧ W.cell? ⟨w5.heap.size, 2, none⟩ = some (.int .u16 r0.cls) ∧ W.cell? ⟨w5.heap.size, 3, none⟩ = some (.int .u32 r0.ttl) ∧ W.cell? ⟨w5.heap.size, 4, none⟩ = some (.int .i64 r0.doff) ∧ W.cell? ⟨w5.heap.size, 5, none⟩ = some (.slice r0.da r0.dl r0.dc) ∧ W.cell? ⟨w1.heap.size, (J - 1) * 6, none⟩ = some (.int .i64 r0.off) ∧ W.cell? ⟨w1.heap.size, (J - 1) * 6 + 1, none⟩ = some (.int .u16 r0.ty) ∧ W.cell? ⟨w1.heap.size, (J - 1) * 6 + 2, none⟩ = some (.int .u16 r0.cls) ∧ W.cell? ⟨w1.heap.size, (J - 1) * 6 + 3, none⟩ = some (.int .u32 r0.ttl) ∧ W.cell? ⟨w1.heap.size, (J - 1) * 6 + 4, none⟩ = some (.int .i64 r0.doff) ∧ W.cell? ⟨w1.heap.size, (J - 1) * 6 + 5, none⟩ = some (.slice r0.da r0.dl r0.dc)) (first | assumption | exact keepO S2b ((Below.refl _ _).drew))
        (first
          | (go_at_call 21; refine (rr_any r0 _).mono ?_; rintro e wA2b ⟨rfl, hA2b⟩
             have SA2b := keepO S2b (below_undrew hA2b)
             have hDA2b := hD2b.below (below_undrew hA2b) (Nat.le_refl _))
          | (go_at_call 20; refine (eqRR_self r0 _ hDA2b hD2bl).mono ?_; rintro e u2b ⟨rfl, hC2b⟩
             have SC2b := keepO SA2b hC2b
             have hv2b := (below_undrew hA2b).trans (hC2b.mono (below_undrew hA2b).size)))
      have hR2b := hR2.below hv2b hR2.block
      have hBu2b := hBu2.trans (hv2b.mono hBu2.size)
      have hg2b : w1.heap.size < u2b.heap.size := by have := hv2b.size; omega
      have hK2b_0 := hK2_0.below hv2b (World.block_lt_of_cell? u2 _ hK2_0.c0)
      have hK2b_1 := hK2_1.below hv2b (World.block_lt_of_cell? u2 _ hK2_1.c0)
      have hK2b_2 := hK2_2.below hv2b (World.block_lt_of_cell? u2 _ hK2_2.c0)
      clear S2b SA2b SC2b hD2b hDA2b hv2b hA2b hC2b ia2b ib2b ic2b id2b ie2b if2b ig2b
      go_wp2
      have ia2c : (0 : Int) ≤ (J : Int) - 1 := by omega
      have ib2c : (J : Int) - 1 < (J : Int) := by omega
      have ic2c : IntKind.i64.wrap ((J : Int) - 1) = (J : Int) - 1 := wrap_small _ (by omega) (by omega)
      have id2c : ((J : Int) - 1).toNat = J - 1 := by omega
      have ie2c : (1 : Int) ≤ (J : Int) := by omega
      have if2c : 1 ≤ J := by omega
      have ig2c : (J : Int) < (J : Int) + 1 := by omega
      have S2c := keepO_of hK2b_1 (recs_at hR2b (J - 1) r1 hxj1)
      have hD2c := (hgood r1 (List.mem_of_getElem? hxj1)).1.below hBu2b (Nat.le_refl _)
      have hD2cl := (hgood r1 (List.mem_of_getElem? hxj1)).2
      go_region_held3 (fun W => W.cell? ⟨v1.heap.size, 0, none⟩ = some (.int .i64 r1.off) ∧ W.cell? ⟨v1.heap.size, 1, none⟩ = some (.int .u16 r1.ty) ∧ W.cell? ⟨v1.heap.size, 2, none⟩ = some (.int .u16 r1.cls) ∧ W.cell? ⟨v1.heap.size, 3, none⟩ = some (.int .u32 r1.ttl) ∧ W.cell? ⟨v1.heap.size, 4, none⟩ = some (.int .i64 r1.doff) ∧ W.cell? ⟨v1.heap.size, 5, none⟩ = some (.slice r1.da r1.dl r1.dc) ∧ W.cell? ⟨w1.heap.size, (J - 1) * 6, none⟩ = some (.int .i64 r1.off) ∧ W.cell? ⟨w1.heap.size, (J - 1) * 6 + 1, none⟩ = some (.int .u16 r1.ty) ∧ W.cell? ⟨w1.heap.size, (J - 1) * 6 + 2, none⟩ = some (.int .u16 r1.cls) ∧ W.cell? ⟨w1.heap.size, (J - 1) * 6 + 3, none⟩ = some (.int .u32 r1.ttl) ∧ W.cell? ⟨w1.heap.size, (J - 1) * 6 + 4, none⟩ = some (.int .i64 r1.doff) ∧ W.cell? ⟨w1.heap.size, (J - 1) * 6 + 5, none⟩ = some (.slice r1.da r1.dl r1.dc)) (first | assumption | exact keepO S2c ((Below.refl _ _).drew))
        (first
          | (go_at_call 21; refine (rr_any r1 _).mono ?_; rintro e wA2c ⟨rfl, hA2c⟩
             have SA2c := keepO S2c (below_undrew hA2c)
             have hDA2c := hD2c.below (below_undrew hA2c) (Nat.le_refl _))
          | (go_at_call 20; refine (eqRR_self r1 _ hDA2c hD2cl).mono ?_; rintro e u2c ⟨rfl, hC2c⟩
             have SC2c := keepO SA2c hC2c
             have hv2c := (below_undrew hA2c).trans (hC2c.mono (below_undrew hA2c).size)))
      have hR2c := hR2b.below hv2c hR2b.block
      have hBu2c := hBu2b.trans (hv2c.mono hBu2b.size)
      have hg2c : w1.heap.size < u2c.heap.size := by have := hv2c.size; omega
      have hK2c_0 := hK2b_0.below hv2c (World.block_lt_of_cell? u2b _ hK2b_0.c0)
      have hK2c_1 := hK2b_1.below hv2c (World.block_lt_of_cell? u2b _ hK2b_1.c0)
      have hK2c_2 := hK2b_2.below hv2c (World.block_lt_of_cell? u2b _ hK2b_2.c0)
      clear S2c SA2c SC2c hD2c hDA2c hv2c hA2c hC2c ia2c ib2c ic2c id2c ie2c if2c ig2c
      obtain ⟨z0, z1, z2, z3, z4, z5⟩ := hK2c_2.flat
      go_wp2_with fail
      refine (zeroRR_zero _).mono ?_
      rintro e u2d ⟨rfl, hv2d⟩
      clear z0 z1 z2 z3 z4 z5
      have hR2d := hR2c.below hv2d hR2c.block
      have hBu2d := hBu2c.trans (hv2d.mono hBu2c.size)
      have hg2d : w1.heap.size < u2d.heap.size := by have := hv2d.size; omega
      have hK2d_0 := hK2c_0.below hv2d (World.block_lt_of_cell? u2c _ hK2c_0.c0)
      have hK2d_1 := hK2c_1.below hv2d (World.block_lt_of_cell? u2c _ hK2c_1.c0)
      have hK2d_2 := hK2c_2.below hv2d (World.block_lt_of_cell? u2c _ hK2c_2.c0)
      clear hv2d
      go_wp2
      go_ret
      exact ⟨rfl, hBu2d⟩
end Go.Proofs.Qxb6618124a
