import Derived.Test.Qxb6618124aL5
namespace Go.Proofs.Qxb6618124a
open Go.RowKit

attribute [local go_sem ↓] Go.wp_at_zero Go.wp_at_succ
set_option linter.unusedVariables false

set_option maxRecDepth 100000 in
set_option maxHeartbeats 2000000 in
theorem law5_z (h0 h1 h2 h3 h4 h5 : Int) (qo : Option Addr) (qs : List Qc) (qc : Nat) (ao bo co : Option Addr) (rs us ds : List Rc) (ac bc cc : Nat) (j : Int) (w : World) (hqs : Qs w qo qs) (hr : Recs w ao rs) (hu : Recs w bo us) (hd : Recs w co ds)
    (nq : qo = none → qs = [] ∧ qc = 0) (nr : ao = none → rs = [] ∧ ac = 0) (nu : bo = none → us = [] ∧ bc = 0) (nd : co = none → ds = [] ∧ cc = 0)
    (lq : qs.length ≤ maxLen) (lr : rs.length ≤ maxLen) (lu : us.length ≤ maxLen) (ld : ds.length ≤ maxLen) (gr : Goods w rs) (gu : Goods w us) (gd : Goods w ds) (hds : ds = []) (hus : us = []) (hrs : rs = []) :
    Calls Try.prog 5 #[.agg #[.int .u16 h0, .int .u16 h1, .int .u16 h2, .int .u16 h3, .int .u16 h4, .int .u16 h5], .slice qo qs.length qc, .slice ao rs.length ac, .slice bo us.length bc, .slice co ds.length cc, .int .i64 j] w
      fun e w' => e = .returned (.bool true) ∧ Below w.heap.size w w' := by
  have Hhds := hid hds
  have Hhus := hid hus
  have Hhrs := hid hrs
  clear hds hus hrs
  go_enter Try.func5, Try.ntmps5
  go_wp2_with fail
  obtain ⟨wb, hwb⟩ : ∃ wb, wb = w.alloc (.cells #[.int .u16 h0, .int .u16 h1, .int .u16 h2, .int .u16 h3, .int .u16 h4, .int .u16 h5] 24) := ⟨_, rfl⟩
  rw [← hwb]
  have hbb : Below w.heap.size w wb := by rw [hwb]; exact below_alloc1 _ _
  have hHb : AtH wb w.heap.size h0 h1 h2 h3 h4 h5 := by rw [hwb]; constructor <;> simp
  have hzb : w.heap.size + 1 ≤ wb.heap.size := by rw [hwb]; simp
  have B0 := Base4.mk0 hqs hr hu hd hbb
  clear hwb
  refine (bytes_cut h0 h1 h2 h3 h4 h5 qo qs.length qc ao bo co rs us ds ac bc cc j wb B0.r B0.u B0.d lq lr lu ld).mono ?_
  rintro e w1 ⟨⟨b, rfl⟩, hb1⟩
  have hB1 := hbb.trans (hb1.mono (by omega))
  have B1 := Base4.mk0 hqs hr hu hd hB1
  have hH1 := hHb.below hb1 (by omega)
  have hz1 : w.heap.size + 1 ≤ w1.heap.size := by have := hb1.size; omega
  clear hb1 hHb B0 hbb hzb
  cases b with
  | false =>
    go_wp2
    go_ret
    exact ⟨rfl, hB1⟩
  | true =>
    go_wp2_with fail
    refine (msg_bytes qo qs.length qc ao bo co rs us ds ac bc cc w1 B1.r B1.u B1.d lq lr lu ld).mono ?_
    rintro e w2 ⟨hw, z, rfl, hz, hzz⟩
    subst hw
    obtain ⟨k0, k1, k2, k3, k4, k5⟩ := hH1
    by_cases cz : 1048576 < z
    · go_wp2
      go_ret
      exact ⟨rfl, hB1⟩
    have hlen : 16 * (qs.length : Int) + 48 * (rs.length + us.length + ds.length) ≤ 1048576 := by have := hzz (by omega); omega
    clear hzz
    have CJ := join_any ao bo co rs us ds ac bc cc w1 B1.r B1.u B1.d (by omega)
    obtain ⟨N, hN⟩ : ∃ N, rs.length + us.length + ds.length = N := ⟨_, rfl⟩
    obtain ⟨A, hA⟩ : ∃ A, rs ++ us ++ ds = A := ⟨_, rfl⟩
    rw [hN, hA] at CJ
    have hAN : A.length = N := by rw [← hA, ← hN]; simp; omega
    have HA : Hid (rs ++ us ++ ds = A) := hA
    have hNb : N ≤ 21846 := by omega
    have HAN : Hid (A.length = N) := hAN
    have HN : Hid (rs.length + us.length + ds.length = N) := hN
    have HCJ := hid CJ
    clear hA hAN hN CJ
    go_wp2_with fail
    refine HCJ.out.mono ?_
    rintro e w3 ⟨rfl, hR3, hb3, hz3⟩
    clear HCJ
    by_cases cj : j < 0
    · go_wp2
      go_ret
      exact ⟨rfl, hB1.trans (hb3.mono (by omega))⟩
    by_cases cj2 : (N : Int) < j
    · go_wp2
      go_ret
      exact ⟨rfl, hB1.trans (hb3.mono (by omega))⟩
    obtain ⟨J, rfl⟩ := Int.eq_ofNat_of_zero_le (show 0 ≤ j by omega)
    have hJ : J ≤ N := by omega
    have hB3 := hB1.trans (hb3.mono (by omega))
    have B3 := Base4.mk0 hqs hr hu hd hB3
    have hH3 : AtH w3 w.heap.size h0 h1 h2 h3 h4 h5 := (AtH.mk k0 k1 k2 k3 k4 k5).below hb3 (by omega)
    clear hb3 B1 k0 k1 k2 k3 k4 k5
    obtain ⟨k0, k1, k2, k3, k4, k5⟩ := hH3
    go_wp2_with fail
    refine (msg_any h0 h1 h2 h3 h4 h5 qo qs qc ao bo co rs us ds ac bc cc w3 B3.q B3.r B3.u B3.d nq nr nu nd (by omega) (by omega) (by omega) (by omega)).mono ?_
    rintro e w4 ⟨⟨mb, a7, a8, a9, rfl, hM⟩, hb4⟩
    have hR4 := hR3.below hb4 hR3.block
    have hB4 := hB3.trans (hb4.mono (by omega))
    have hz4 : w1.heap.size < w4.heap.size := by have := hb4.size; omega
    clear hb4 hR3 k0 k1 k2 k3 k4 k5 B3
    go_wp2_with fail
    refine (zfind_any mb a7 a8 a9 rs.length us.length ds.length rs us ds w4 hM.r7 hM.r8 hM.r9 hM.c7 hM.c8 hM.c9 (by omega) (by omega) (by omega)).mono ?_
    rintro e w5 ⟨rfl, hb5⟩
    have hR5 := hR4.below hb5 hR4.block
    have hB5 := hB4.trans (hb5.mono (by omega))
    have hz5 : w1.heap.size < w5.heap.size := by have := hb5.size; omega
    clear hb5 hM hR4 hB4 hB3
    obtain ⟨r0, s0c, n0, e01, e02, e03⟩ : ∃ r s n, (findP rs us ds).r = r ∧ (findP rs us ds).sec = s ∧ (findP rs us ds).n = n := ⟨_, _, _, rfl, rfl, rfl⟩
    rw [e01, e02, e03]
    have E0 := hid (And.intro e01 (And.intro e02 e03))
    clear e01 e02 e03
    obtain ⟨u0, hu0⟩ : ∃ u, u = w5.alloc (.cells #[.int .i64 r0.off, .int .u16 r0.ty, .int .u16 r0.cls, .int .u32 r0.ttl, .int .i64 r0.doff, .slice r0.da r0.dl r0.dc] 53) := ⟨_, rfl⟩
    have hbu0 : Below w5.heap.size w5 u0 := by rw [hu0]; exact below_alloc1 _ _
    have hK0_0 : At6 u0 w5.heap.size 0 r0 := by rw [hu0]; exact at6_alloc _ _ _
    have Hu0 := hid hu0
    have hR0 := hR5.below hbu0 hR5.block
    have hBu0 := hB5.trans (hbu0.mono (by omega))
    have hg0 : w1.heap.size < u0.heap.size := by have := hbu0.size; omega
    clear hu0 hbu0 hR5 hB5 hz5 hz4 hz3
    have hJN : (J : Int) ≤ (N : Int) := by omega
    have hgood : Goods w A := by
      intro r hr
      rw [← HA.out] at hr
      simp only [List.mem_append] at hr
      rcases hr with (hr | hr) | hr
      · exact gr r hr
      · exact gu r hr
      · exact gd r hr
    have hds := Hhds.out
    have hus := Hhus.out
    have hrs := Hhrs.out
    obtain rfl : 0 = N := by rw [← HN.out]; simp [hds, hus, hrs]
    obtain rfl : J = 0 := by omega
    obtain ⟨g1, g2, g3⟩ : (⟨0, 0, 0, 0, 0, none, 0, 0⟩ : Rc) = r0 ∧ 0 = s0c ∧ 0 = n0 := by
      have E := E0.out
      rw [hds, hus, hrs] at E
      exact ⟨E.1, E.2.1, E.2.2⟩
    subst g1 g2 g3
    clear E0
    clear hds hus hrs
    have hlen1 : (([] : List Rc)).length = 0 := by rfl
    have C15 := rrs_any (some ⟨w1.heap.size, 0, none⟩) (([] : List Rc)) 0 u0 (.inl rfl) (fun hh => by cases hh) (by rw [hlen1]; omega)
    rw [hlen1] at C15
    have Hlen1 := hid hlen1
    have H15 := hid C15
    clear C15 hlen1
    go_wp2_with fail
    rw [← Hu0.out]
    refine H15.out.mono ?_
    rintro e s1 ⟨a1, rfl, hT1, _, hx1⟩
    clear H15
    go_wp2_with fail
    obtain ⟨t1, ht1⟩ : ∃ t, t = s1.alloc (.cells #[.int .u16 0, .int .u16 0, .int .u16 0, .int .u16 0, .int .u16 0, .int .u16 0, .slice none 0 0, .slice none 0 0, .slice none 0 0, .slice a1 0 0] 50) := ⟨_, rfl⟩
    rw [← ht1]
    have hT1' : Recs t1 a1 (([] : List Rc)) := by rw [ht1]; exact hT1.alloc _
    have q7 : t1.cell? ⟨s1.heap.size, 7, none⟩ = some (.slice none ([] : List Rc).length 0) := by rw [ht1]; simp
    have q8 : t1.cell? ⟨s1.heap.size, 8, none⟩ = some (.slice none ([] : List Rc).length 0) := by rw [ht1]; simp
    have q9 : t1.cell? ⟨s1.heap.size, 9, none⟩ = some (.slice a1 (([] : List Rc)).length 0) := by rw [ht1, Hlen1.out]; simp
    have hy1 : Below u0.heap.size u0 t1 := by rw [ht1]; exact hx1.alloc hx1.size _
    clear ht1 hT1 hx1
    refine (zfind_any s1.heap.size none none a1 0 0 0 [] [] (([] : List Rc)) t1 (.inl rfl) (.inl rfl) hT1' q7 q8 q9 (by simp) (by simp) (by rw [Hlen1.out]; omega)).mono ?_
    rintro e v1 ⟨rfl, hw1⟩
    have hv1 := hy1.trans (hw1.mono hy1.size)
    clear q7 q8 q9 hT1' hy1 hw1
    obtain ⟨r1, s1c, n1, e11, e12, e13⟩ : ∃ r s n, (findP [] [] (([] : List Rc))).r = r ∧ (findP [] [] (([] : List Rc))).sec = s ∧ (findP [] [] (([] : List Rc))).n = n := ⟨_, _, _, rfl, rfl, rfl⟩
    rw [e11, e12, e13]
    have E1 := hid (And.intro e11 (And.intro e12 e13))
    clear e11 e12 e13
    have hR1v := hR0.below hv1 hR0.block
    have hB1v := hBu0.trans (hv1.mono hBu0.size)
    have hg1v : w1.heap.size < v1.heap.size := by have := hv1.size; omega
    have hK1v0 := hK0_0.below hv1 (World.block_lt_of_cell? u0 _ hK0_0.c0)
    obtain ⟨u1, hu1⟩ : ∃ u, u = v1.alloc (.cells #[.int .i64 r1.off, .int .u16 r1.ty, .int .u16 r1.cls, .int .u32 r1.ttl, .int .i64 r1.doff, .slice r1.da r1.dl r1.dc] 53) := ⟨_, rfl⟩
    have hbu1 : Below v1.heap.size v1 u1 := by rw [hu1]; exact below_alloc1 _ _
    have hK1_1 : At6 u1 v1.heap.size 0 r1 := by rw [hu1]; exact at6_alloc _ _ _
    have Hu1 := hid hu1
    have hR1 := hR1v.below hbu1 hR1v.block
    have hBu1 := hB1v.trans (hbu1.mono hB1v.size)
    have hg1 : w1.heap.size < u1.heap.size := by have := hbu1.size; omega
    have hK1_0 := hK1v0.below hbu1 (World.block_lt_of_cell? v1 _ hK1v0.c0)
    clear hu1 hbu1 hR1v hB1v hv1 hK1v0
    clear gr gu gd hr hu hd hqs nq nr nu nd lq lr lu ld hlen
    obtain ⟨g1, g2, g3⟩ : (⟨0, 0, 0, 0, 0, none, 0, 0⟩ : Rc) = r1 ∧ 0 = s1c ∧ 0 = n1 := ⟨E1.out.1, E1.out.2.1, E1.out.2.2⟩
    subst g1 g2 g3
    clear E1
    have hlen2 : (([] : List Rc)).length = 0 := by rfl
    have C15 := rrs_any (some ⟨w1.heap.size, 0, none⟩) (([] : List Rc)) 0 u1 (.inl rfl) (fun hh => by cases hh) (by rw [hlen2]; omega)
    rw [hlen2] at C15
    have Hlen2 := hid hlen2
    have H15 := hid C15
    clear C15 hlen2
    go_wp2_with fail
    rw [← Hu1.out]
    refine H15.out.mono ?_
    rintro e s2 ⟨a2, rfl, hT2, _, hx2⟩
    clear H15
    go_wp2_with fail
    obtain ⟨t2, ht2⟩ : ∃ t, t = s2.alloc (.cells #[.int .u16 0, .int .u16 0, .int .u16 0, .int .u16 0, .int .u16 0, .int .u16 0, .slice none 0 0, .slice none 0 0, .slice none 0 0, .slice a2 0 0] 50) := ⟨_, rfl⟩
    rw [← ht2]
    have hT2' : Recs t2 a2 (([] : List Rc)) := by rw [ht2]; exact hT2.alloc _
    have q7 : t2.cell? ⟨s2.heap.size, 7, none⟩ = some (.slice none ([] : List Rc).length 0) := by rw [ht2]; simp
    have q8 : t2.cell? ⟨s2.heap.size, 8, none⟩ = some (.slice none ([] : List Rc).length 0) := by rw [ht2]; simp
    have q9 : t2.cell? ⟨s2.heap.size, 9, none⟩ = some (.slice a2 (([] : List Rc)).length 0) := by rw [ht2, Hlen2.out]; simp
    have hy2 : Below u1.heap.size u1 t2 := by rw [ht2]; exact hx2.alloc hx2.size _
    clear ht2 hT2 hx2
    refine (zfind_any s2.heap.size none none a2 0 0 0 [] [] (([] : List Rc)) t2 (.inl rfl) (.inl rfl) hT2' q7 q8 q9 (by simp) (by simp) (by rw [Hlen2.out]; omega)).mono ?_
    rintro e v2 ⟨rfl, hw2⟩
    have hv2 := hy2.trans (hw2.mono hy2.size)
    clear q7 q8 q9 hT2' hy2 hw2
    obtain ⟨r2, s2c, n2, e21, e22, e23⟩ : ∃ r s n, (findP [] [] (([] : List Rc))).r = r ∧ (findP [] [] (([] : List Rc))).sec = s ∧ (findP [] [] (([] : List Rc))).n = n := ⟨_, _, _, rfl, rfl, rfl⟩
    rw [e21, e22, e23]
    have E2 := hid (And.intro e21 (And.intro e22 e23))
    clear e21 e22 e23
    have hR2v := hR1.below hv2 hR1.block
    have hB2v := hBu1.trans (hv2.mono hBu1.size)
    have hg2v : w1.heap.size < v2.heap.size := by have := hv2.size; omega
    have hK2v0 := hK1_0.below hv2 (World.block_lt_of_cell? u1 _ hK1_0.c0)
    have hK2v1 := hK1_1.below hv2 (World.block_lt_of_cell? u1 _ hK1_1.c0)
    obtain ⟨u2, hu2⟩ : ∃ u, u = v2.alloc (.cells #[.int .i64 r2.off, .int .u16 r2.ty, .int .u16 r2.cls, .int .u32 r2.ttl, .int .i64 r2.doff, .slice r2.da r2.dl r2.dc] 53) := ⟨_, rfl⟩
    have hbu2 : Below v2.heap.size v2 u2 := by rw [hu2]; exact below_alloc1 _ _
    have hK2_2 : At6 u2 v2.heap.size 0 r2 := by rw [hu2]; exact at6_alloc _ _ _
    have Hu2 := hid hu2
    have hR2 := hR2v.below hbu2 hR2v.block
    have hBu2 := hB2v.trans (hbu2.mono hB2v.size)
    have hg2 : w1.heap.size < u2.heap.size := by have := hbu2.size; omega
    have hK2_0 := hK2v0.below hbu2 (World.block_lt_of_cell? v2 _ hK2v0.c0)
    have hK2_1 := hK2v1.below hbu2 (World.block_lt_of_cell? v2 _ hK2v1.c0)
    clear hu2 hbu2 hR2v hB2v hv2 hK2v0 hK2v1
    obtain ⟨g1, g2, g3⟩ : (⟨0, 0, 0, 0, 0, none, 0, 0⟩ : Rc) = r2 ∧ 0 = s2c ∧ 0 = n2 := ⟨E2.out.1, E2.out.2.1, E2.out.2.2⟩
    subst g1 g2 g3
    clear E2
    obtain ⟨z0, z1, z2, z3, z4, z5⟩ := hK2_0.flat
    rw [Hu2.out] at z0 z1 z2 z3 z4 z5
    go_wp2_with fail
    refine (zeroRR_zero _).mono ?_
    rintro e u3 ⟨rfl, hv3⟩
    rw [← Hu2.out] at hv3
    clear z0 z1 z2 z3 z4 z5
    have hBu3 := hBu2.trans (hv3.mono hBu2.size)
    go_wp2
    go_ret
    exact ⟨rfl, hBu3⟩
end Go.Proofs.Qxb6618124a
