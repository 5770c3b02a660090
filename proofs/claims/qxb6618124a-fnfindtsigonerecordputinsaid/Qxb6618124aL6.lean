import Derived.Test.Qxb6618124aG
namespace Go.Proofs.Qxb6618124a
open Go.RowKit

attribute [local go_sem ↓] Go.wp_at_zero Go.wp_at_succ

theorem keep12 {b1 b2 : Nat} {r1 r2 : Rc} {W W' : World} (h : W.cell? ⟨b1, 0, none⟩ = some (.int .i64 r1.off) ∧ W.cell? ⟨b1, 1, none⟩ = some (.int .u16 r1.ty) ∧ W.cell? ⟨b1, 2, none⟩ = some (.int .u16 r1.cls) ∧ W.cell? ⟨b1, 3, none⟩ = some (.int .u32 r1.ttl) ∧ W.cell? ⟨b1, 4, none⟩ = some (.int .i64 r1.doff) ∧ W.cell? ⟨b1, 5, none⟩ = some (.slice r1.da r1.dl r1.dc) ∧ W.cell? ⟨b2, 0, none⟩ = some (.int .i64 r2.off) ∧ W.cell? ⟨b2, 1, none⟩ = some (.int .u16 r2.ty) ∧ W.cell? ⟨b2, 2, none⟩ = some (.int .u16 r2.cls) ∧ W.cell? ⟨b2, 3, none⟩ = some (.int .u32 r2.ttl) ∧ W.cell? ⟨b2, 4, none⟩ = some (.int .i64 r2.doff) ∧ W.cell? ⟨b2, 5, none⟩ = some (.slice r2.da r2.dl r2.dc)) (hb : Below W.heap.size W W') : W'.cell? ⟨b1, 0, none⟩ = some (.int .i64 r1.off) ∧ W'.cell? ⟨b1, 1, none⟩ = some (.int .u16 r1.ty) ∧ W'.cell? ⟨b1, 2, none⟩ = some (.int .u16 r1.cls) ∧ W'.cell? ⟨b1, 3, none⟩ = some (.int .u32 r1.ttl) ∧ W'.cell? ⟨b1, 4, none⟩ = some (.int .i64 r1.doff) ∧ W'.cell? ⟨b1, 5, none⟩ = some (.slice r1.da r1.dl r1.dc) ∧ W'.cell? ⟨b2, 0, none⟩ = some (.int .i64 r2.off) ∧ W'.cell? ⟨b2, 1, none⟩ = some (.int .u16 r2.ty) ∧ W'.cell? ⟨b2, 2, none⟩ = some (.int .u16 r2.cls) ∧ W'.cell? ⟨b2, 3, none⟩ = some (.int .u32 r2.ttl) ∧ W'.cell? ⟨b2, 4, none⟩ = some (.int .i64 r2.doff) ∧ W'.cell? ⟨b2, 5, none⟩ = some (.slice r2.da r2.dl r2.dc) := by
  obtain ⟨a0, a1, a2, a3, a4, a5, c0, c1, c2, c3, c4, c5⟩ := h
  have k1 : ∀ j, W'.cell? ⟨b1, j, none⟩ = W.cell? ⟨b1, j, none⟩ := fun j => hb.cell (p := ⟨b1, j, none⟩) (World.block_lt_of_cell? W ⟨b1, 0, none⟩ a0)
  have k2 : ∀ j, W'.cell? ⟨b2, j, none⟩ = W.cell? ⟨b2, j, none⟩ := fun j => hb.cell (p := ⟨b2, j, none⟩) (World.block_lt_of_cell? W ⟨b2, 0, none⟩ c0)
  exact ⟨(k1 _).trans a0, (k1 _).trans a1, (k1 _).trans a2, (k1 _).trans a3, (k1 _).trans a4, (k1 _).trans a5, (k2 _).trans c0, (k2 _).trans c1, (k2 _).trans c2, (k2 _).trans c3, (k2 _).trans c4, (k2 _).trans c5⟩

theorem keep12_of {b1 b2 : Nat} {r1 r2 : Rc} {W : World} (h1 : At6 W b1 0 r1) (h2 : At6 W b2 0 r2) : W.cell? ⟨b1, 0, none⟩ = some (.int .i64 r1.off) ∧ W.cell? ⟨b1, 1, none⟩ = some (.int .u16 r1.ty) ∧ W.cell? ⟨b1, 2, none⟩ = some (.int .u16 r1.cls) ∧ W.cell? ⟨b1, 3, none⟩ = some (.int .u32 r1.ttl) ∧ W.cell? ⟨b1, 4, none⟩ = some (.int .i64 r1.doff) ∧ W.cell? ⟨b1, 5, none⟩ = some (.slice r1.da r1.dl r1.dc) ∧ W.cell? ⟨b2, 0, none⟩ = some (.int .i64 r2.off) ∧ W.cell? ⟨b2, 1, none⟩ = some (.int .u16 r2.ty) ∧ W.cell? ⟨b2, 2, none⟩ = some (.int .u16 r2.cls) ∧ W.cell? ⟨b2, 3, none⟩ = some (.int .u32 r2.ttl) ∧ W.cell? ⟨b2, 4, none⟩ = some (.int .i64 r2.doff) ∧ W.cell? ⟨b2, 5, none⟩ = some (.slice r2.da r2.dl r2.dc) := by
  obtain ⟨a0, a1, a2, a3, a4, a5⟩ := h1.flat
  obtain ⟨c0, c1, c2, c3, c4, c5⟩ := h2.flat
  exact ⟨a0, a1, a2, a3, a4, a5, c0, c1, c2, c3, c4, c5⟩

set_option maxRecDepth 100000 in
set_option maxHeartbeats 2000000 in
theorem law6_2 (h0 h1 h2 h3 h4 h5 : Int) (qo : Option Addr) (qs : List Qc) (qc : Nat) (ao bo co : Option Addr) (rs us ds : List Rc) (ac bc cc : Nat) (k : Int) (x : Rc) (w : World) (hqs : Qs w qo qs) (hr : Recs w ao rs) (hu : Recs w bo us) (hd : Recs w co ds)
    (nq : qo = none → qs = [] ∧ qc = 0) (nr : ao = none → rs = [] ∧ ac = 0) (nu : bo = none → us = [] ∧ bc = 0) (nd : co = none → ds = [] ∧ cc = 0)
    (lq : qs.length ≤ maxLen) (lr : rs.length ≤ maxLen) (lu : us.length ≤ maxLen) (ld : ds.length ≤ maxLen) (gr : Goods w rs) (gu : Goods w us) (gd : Goods w ds) (gx : DatW w x.da x.dl ∧ x.dl ≤ maxLen) :
    Calls Try.prog 6 #[.agg #[.int .u16 h0, .int .u16 h1, .int .u16 h2, .int .u16 h3, .int .u16 h4, .int .u16 h5], .slice qo qs.length qc, .slice ao rs.length ac, .slice bo us.length bc, .slice co ds.length cc, .int .i64 2, .int .i64 k, .agg #[.int .i64 x.off, .int .u16 x.ty, .int .u16 x.cls, .int .u32 x.ttl, .int .i64 x.doff, .slice x.da x.dl x.dc]] w
      fun e w' => e = .returned (.bool true) ∧ Below w.heap.size w w' := by
  go_enter Try.func6, Try.ntmps6
  go_wp2_with fail
  obtain ⟨wb, hwb⟩ : ∃ wb, wb = (w.alloc (.cells #[.int .u16 h0, .int .u16 h1, .int .u16 h2, .int .u16 h3, .int .u16 h4, .int .u16 h5] 24)).alloc (.cells #[.int .i64 x.off, .int .u16 x.ty, .int .u16 x.cls, .int .u32 x.ttl, .int .i64 x.doff, .slice x.da x.dl x.dc] 40) := ⟨_, rfl⟩
  rw [← hwb]
  have hbb : Below w.heap.size w wb := by rw [hwb]; exact ((Below.refl _ _).alloc (Nat.le_refl _) _).alloc (by simp) _
  have hHb : AtH wb w.heap.size h0 h1 h2 h3 h4 h5 := by rw [hwb]; constructor <;> simp
  have hXb : At6 wb (w.heap.size + 1) 0 x := by rw [hwb]; constructor <;> simp
  have hzb : w.heap.size + 2 ≤ wb.heap.size := by rw [hwb]; simp
  have B0 := Base4.mk0 hqs hr hu hd hbb
  clear hwb
  refine (bytes_fone h0 h1 h2 h3 h4 h5 qo qs.length qc ao bo co rs us ds ac bc cc 2 k x wb B0.r B0.u B0.d lq lr lu ld).mono ?_
  rintro e w1 ⟨⟨b, rfl⟩, hb1⟩
  have hB1 := hbb.trans (hb1.mono (by omega))
  have B1 := Base4.mk0 hqs hr hu hd hB1
  have hH1 := hHb.below hb1 (by omega)
  have hX1 := hXb.below hb1 (by omega)
  have hz1 : w.heap.size + 2 ≤ w1.heap.size := by have := hb1.size; omega
  clear hb1 hHb hXb B0 hbb hzb
  cases b with
  | false =>
    go_wp2
    go_ret
    exact ⟨rfl, hB1⟩
  | true =>
    go_wp2_with fail
    refine (msg_bytes qo qs.length qc ao bo co rs us ds ac bc cc w1 B1.r B1.u B1.d lq lr lu ld).mono ?_
    rintro e w2 ⟨hw, z, rfl, hz, hzz⟩
    subst hw
    obtain ⟨k0, k1, k2, k3, k4, k5⟩ := hH1
    obtain ⟨c0, c1, c2, c3, c4, c5⟩ := hX1.flat
    by_cases cz : 1048576 < z
    · go_wp2
      go_ret
      exact ⟨rfl, hB1⟩
    have hlen : 16 * (qs.length : Int) + 48 * (rs.length + us.length + ds.length) ≤ 1048576 := by have := hzz (by omega); omega
    clear hzz
    by_cases cx : 1048576 - z < (x.dl : Int)
    · go_wp2
      go_ret
      exact ⟨rfl, hB1⟩
    by_cases ck : k < 0
    · go_wp2
      go_ret
      exact ⟨rfl, hB1⟩
    by_cases ck2 : (ds.length : Int) < k
    · go_wp2
      go_ret
      exact ⟨rfl, hB1⟩
    obtain ⟨K, rfl⟩ := Int.eq_ofNat_of_zero_le (show 0 ≤ k by omega)
    go_wp2_with fail
    refine (insert_any co ds cc K x w1 B1.d (by omega) (by omega)).mono ?_
    rintro e w3 ⟨rfl, hI3, hb3⟩
    have hi3 : w1.heap.size + 1 < w3.heap.size := by
      rcases hI3 with hR3 | ⟨b, o, hbo, hlt, _⟩
      · simp at hR3
      · cases hbo; exact hlt
    have hB3 := hB1.trans (hb3.mono (by omega))
    have B3 := Base4.mk0 hqs hr hu hd hB3
    have hX3 := hX1.below hb3 (by omega)
    have hH3 : AtH w3 w.heap.size h0 h1 h2 h3 h4 h5 := (AtH.mk k0 k1 k2 k3 k4 k5).below hb3 (by omega)
    clear hb3 hX1 B1 c0 c1 c2 c3 c4 c5 k0 k1 k2 k3 k4 k5
    obtain ⟨k0, k1, k2, k3, k4, k5⟩ := hH3
    go_wp2_with fail
    refine (msg_any h0 h1 h2 h3 h4 h5 qo qs qc ao bo co rs us ds ac bc cc w3 B3.q B3.r B3.u B3.d nq nr nu nd (by omega) (by omega) (by omega) (by omega)).mono ?_
    rintro e w4 ⟨⟨mb, a7, a8, a9, rfl, hM⟩, hb4⟩
    have hI4 := hI3.below hb4 hI3.block
    have hX4 := hX3.below hb4 (by omega)
    have hH4 : AtH w4 w.heap.size h0 h1 h2 h3 h4 h5 := (AtH.mk k0 k1 k2 k3 k4 k5).below hb4 (by omega)
    have hB4 := hB3.trans (hb4.mono (by omega))
    have hz4 : w1.heap.size + 1 < w4.heap.size := by have := hb4.size; omega
    clear hb4 hI3 hX3 k0 k1 k2 k3 k4 k5
    go_wp2_with fail
    refine (zfind_any mb a7 a8 a9 rs.length us.length ds.length rs us ds w4 hM.r7 hM.r8 hM.r9 hM.c7 hM.c8 hM.c9 (by omega) (by omega) (by omega)).mono ?_
    rintro e w5 ⟨rfl, hb5⟩
    have hI5 := hI4.below hb5 hI4.block
    have hX5 := hX4.below hb5 (by omega)
    have hH5 := hH4.below hb5 (by omega)
    have hB5 := hB4.trans (hb5.mono (by omega))
    have hz5 : w1.heap.size + 1 < w5.heap.size := by have := hb5.size; omega
    clear hb5 hM hI4 hX4 hH4 hB4 hB3 B3
    obtain ⟨p, hp⟩ : ∃ p, p = findP rs us ds := ⟨_, rfl⟩
    rw [← hp]
    have Hp : Hid (p = findP rs us ds) := hp
    clear hp
    have hb6 := below_alloc1 w5 (.cells #[.int .i64 p.r.off, .int .u16 p.r.ty, .int .u16 p.r.cls, .int .u32 p.r.ttl, .int .i64 p.r.doff, .slice p.r.da p.r.dl p.r.dc] 53)
    obtain ⟨w6, hw6⟩ : ∃ w6, w6 = w5.alloc (.cells #[.int .i64 p.r.off, .int .u16 p.r.ty, .int .u16 p.r.cls, .int .u32 p.r.ttl, .int .i64 p.r.doff, .slice p.r.da p.r.dl p.r.dc] 53) := ⟨_, rfl⟩
    have hP6 : At6 w6 w5.heap.size 0 p.r := by rw [hw6]; exact at6_alloc _ _ _
    rw [← hw6] at hb6
    have Hw6 : Hid (w6 = w5.alloc (.cells #[.int .i64 p.r.off, .int .u16 p.r.ty, .int .u16 p.r.cls, .int .u32 p.r.ttl, .int .i64 p.r.doff, .slice p.r.da p.r.dl p.r.dc] 53)) := hw6
    clear hw6
    have hI6 := hI5.below hb6 hI5.block
    have hX6 := hX5.below hb6 (by omega)
    have hH6 := hH5.below hb6 (by omega)
    have hB6 := hB5.trans (hb6.mono (by omega))
    have hz6 : w5.heap.size < w6.heap.size := World.block_lt_of_cell? w6 _ hP6.c0
    have B6 := Base4.mk0 hqs hr hu hd hB6
    clear hb6 hI5 hX5 hB5
    obtain ⟨k0, k1, k2, k3, k4, k5⟩ := hH5
    have hil : (ds.take K ++ x :: ds.drop K).length = ds.length + 1 := by simp; omega
    have C9 := msg_any h0 h1 h2 h3 h4 h5 qo qs qc ao bo (some ⟨w1.heap.size + 1, 0, none⟩) rs us (ds.take K ++ x :: ds.drop K) ac bc (ds.length + 1) w6 B6.q B6.r B6.u hI6 nq nr nu (fun hh => by cases hh) (by omega) (by omega) (by omega) (by rw [hil]; omega)
    rw [hil] at C9
    have H9 := C9
    have H9' : Hid (Calls Try.prog 9 #[.agg #[.int .u16 h0, .int .u16 h1, .int .u16 h2, .int .u16 h3, .int .u16 h4, .int .u16 h5], .slice qo qs.length qc, .slice ao rs.length ac, .slice bo us.length bc, .slice (some ⟨w1.heap.size + 1, 0, none⟩) (ds.length + 1) (ds.length + 1)] w6
      fun e w' => MsgEnd w6 w' rs us (ds.take K ++ x :: ds.drop K) e ∧ Below w6.heap.size w6 w') := H9
    have Hil : Hid ((ds.take K ++ x :: ds.drop K).length = ds.length + 1) := hil
    clear C9 H9 hil
    have hne5 : w.heap.size < w5.heap.size := by omega
    go_wp2_with fail
    rw [← Hw6.out]
    refine H9'.out.mono ?_
    rintro e w7 ⟨⟨mb2, f7, f8, f9, rfl, hN⟩, hb7⟩
    clear H9'
    have hP7 := hP6.below hb7 hz6
    have hX7 := hX6.below hb7 (by omega)
    have hB7 := hB6.trans (hb7.mono (by omega))
    have hz7 : w5.heap.size < w7.heap.size := by have := hb7.size; omega
    clear hb7 hP6 hX6 hH6 hI6 B6 hB6 k0 k1 k2 k3 k4 k5
    go_wp2_with fail
    refine (zfind_any mb2 f7 f8 f9 rs.length us.length (ds.take K ++ x :: ds.drop K).length rs us (ds.take K ++ x :: ds.drop K) w7 hN.r7 hN.r8 hN.r9 hN.c7 hN.c8 hN.c9 (by omega) (by omega) (by rw [Hil.out]; omega)).mono ?_
    rintro e w8 ⟨rfl, hb8⟩
    have hP8 := hP7.below hb8 hz7
    have hX8 := hX7.below hb8 (by omega)
    have hB8 := hB7.trans (hb8.mono (by omega))
    have hz8 : w5.heap.size < w8.heap.size := by have := hb8.size; omega
    clear hb8 hN hP7 hX7 hB7
    have hgp := findP_good w rs us ds gr gu gd
    rw [← Hp.out] at hgp
    have hpn := findP_n rs us ds
    have hqn := findP_n rs us (ds.take K ++ x :: ds.drop K)
    rw [← Hp.out] at hpn
    rw [countT_ins] at hqn
    have bn1 : rs.countP isT ≤ rs.length := List.countP_le_length
    have bn2 : us.countP isT ≤ us.length := List.countP_le_length
    have bn3 : ds.countP isT ≤ ds.length := List.countP_le_length
    obtain ⟨qr, qsec, qn, hq1, hq2, hq3⟩ : ∃ qr qsec qn, (findP rs us (ds.take K ++ x :: ds.drop K)).r = qr ∧ (findP rs us (ds.take K ++ x :: ds.drop K)).sec = qsec ∧ (findP rs us (ds.take K ++ x :: ds.drop K)).n = qn := ⟨_, _, _, rfl, rfl, rfl⟩
    rw [hq3] at hqn
    rw [hq1, hq2, hq3]
    have hqp : qn = p.n + if isT x then 1 else 0 := by rw [hqn, hpn]; split <;> omega
    have hpb : 0 ≤ p.n ∧ p.n ≤ 1048576 := by omega
    clear hqn hpn bn1 bn2 bn3 hq3
    obtain ⟨x0, x1, x2, x3, x4, x5⟩ := hX8.flat
    obtain ⟨pp0, pp1, pp2, pp3, pp4, pp5⟩ := hP8.flat
    have hz8x : w.heap.size + 1 < w8.heap.size := by omega
    have hlast : (K = ds.length ∧ qr = x ∧ qsec = 2) ∨ (K < ds.length ∧ qr = p.r ∧ qsec = p.sec) := by
      have e := findP_ds rs us (ds.take K ++ x :: ds.drop K) (ins_ne _ _ _)
      rw [hq1, hq2] at e
      by_cases hK : K = ds.length
      · left
        subst hK
        exact ⟨rfl, by rw [e.1]; exact last_ins_end _ _ _, e.2⟩
      · right
        have hlt : K < ds.length := by omega
        have hne : ds ≠ [] := by intro h; simp [h] at hlt
        have e2 := findP_ds rs us ds hne
        rw [← Hp.out] at e2
        exact ⟨hlt, by rw [e.1, e2.1]; exact last_ins_mid _ _ _ hlt _ _, by rw [e.2, e2.2]⟩
    have hone : ∃ one : Int, qn = p.n + one ∧ ((x.ty == 250) = true ∧ one = 1 ∨ (x.ty == 250) = false ∧ one = 0) := by
      cases hop : (x.ty == 250) with
      | true => exact ⟨1, by rw [hqp, if_pos (show isT x = true from hop)], .inl ⟨rfl, rfl⟩⟩
      | false => exact ⟨0, by rw [hqp, if_neg (by rw [show isT x = false from hop]; simp)], .inr ⟨rfl, rfl⟩⟩
    obtain ⟨one, hqn, hone⟩ := hone
    subst hqn
    clear hqp hq1 hq2 Hp
    have hgx := gx.1.below hB8 (Nat.le_refl _)
    have hgp' := hgp.1.below hB8 (Nat.le_refl _)
    have hgxl := gx.2
    have hgpl := hgp.2
    clear hgp gx gr gu gd hr hu hd hqs nq nr nu nd lq lr lu ld
    have hb9x := below_alloc1 w8 (.cells #[.int .i64 qr.off, .int .u16 qr.ty, .int .u16 qr.cls, .int .u32 qr.ttl, .int .i64 qr.doff, .slice qr.da qr.dl qr.dc] 53)
    have hQ9 := at6_alloc w8 qr 53
    have hX9 := hX8.below hb9x hz8x
    have hB9 := hB8.trans (hb9x.mono (by omega))
    have hgx9 := hgx.below hb9x (Nat.le_refl _)
    have hgp9 := hgp'.below hb9x (Nat.le_refl _)
    have HQ9 := And.intro hQ9 hX9
    clear hQ9 hX9 hX8 hP8 hb9x hgx hgp' hB8
    rcases hlast with ⟨hK, h1, h2⟩ | ⟨hK, h1, h2⟩
    · have hKb : ((K : Int) == (ds.length : Int)) = true := by simp [hK]
      clear hK
      have g1 := h1.symm; have g2 := h2.symm; clear h1 h2; subst g1 g2
      rcases hone with ⟨hop, rfl⟩ | ⟨hop, rfl⟩
      all_goals
        go_wp2
        obtain ⟨w9, hw9⟩ : ∃ w9, w9 = w8.alloc (.cells #[.int .i64 x.off, .int .u16 x.ty, .int .u16 x.cls, .int .u32 x.ttl, .int .i64 x.doff, .slice x.da x.dl x.dc] 53) := ⟨_, rfl⟩
        rw [← hw9] at HQ9 hB9 hgx9
        rw [← hw9]
        clear hw9
        have S0 := keep12_of HQ9.1 HQ9.2
        go_region_held3 (fun W => W.cell? ⟨w8.heap.size, 0, none⟩ = some (.int .i64 x.off) ∧ W.cell? ⟨w8.heap.size, 1, none⟩ = some (.int .u16 x.ty) ∧ W.cell? ⟨w8.heap.size, 2, none⟩ = some (.int .u16 x.cls) ∧ W.cell? ⟨w8.heap.size, 3, none⟩ = some (.int .u32 x.ttl) ∧ W.cell? ⟨w8.heap.size, 4, none⟩ = some (.int .i64 x.doff) ∧ W.cell? ⟨w8.heap.size, 5, none⟩ = some (.slice x.da x.dl x.dc) ∧ W.cell? ⟨w.heap.size + 1, 0, none⟩ = some (.int .i64 x.off) ∧ W.cell? ⟨w.heap.size + 1, 1, none⟩ = some (.int .u16 x.ty) ∧ W.cell? ⟨w.heap.size + 1, 2, none⟩ = some (.int .u16 x.cls) ∧ W.cell? ⟨w.heap.size + 1, 3, none⟩ = some (.int .u32 x.ttl) ∧ W.cell? ⟨w.heap.size + 1, 4, none⟩ = some (.int .i64 x.doff) ∧ W.cell? ⟨w.heap.size + 1, 5, none⟩ = some (.slice x.da x.dl x.dc)) (first | exact S0 | assumption | exact keep12 S0 ((Below.refl _ _).drew))
          (first
            | (go_at_call 21; refine (rr_any x _).mono ?_; rintro e wA ⟨rfl, hbA⟩
               have SA := keep12 S0 (below_undrew hbA)
               have hgA := hgx9.below (below_undrew hbA) (Nat.le_refl _)
               have hBA := hB9.trans ((below_undrew hbA).mono hB9.size))
            | (go_at_call 20; refine (eqRR_self x _ hgA hgxl).mono ?_; rintro e wC ⟨rfl, hbC⟩
               have SC := keep12 SA hbC
               have hBC := hBA.trans (hbC.mono hBA.size)))
        go_wp2
        go_ret
        exact ⟨rfl, hBC⟩
    · have hKb : ((K : Int) == (ds.length : Int)) = false := by simp; omega
      clear hK
      have g1 := h1.symm; have g2 := h2.symm; clear h1 h2; subst g1 g2
      rcases hone with ⟨hop, rfl⟩ | ⟨hop, rfl⟩
      all_goals
        go_wp2_with fail
        refine (eqRR_self p.r _ hgp9 hgpl).mono ?_
        rintro e wC ⟨rfl, hbC⟩
        go_wp2
        go_ret
        exact ⟨rfl, hB9.trans (hbC.mono hB9.size)⟩

end Go.Proofs.Qxb6618124a
