import Derived.Test.Qxb6618124aM
import Derived.Test.Qxb6618124aB
namespace Go.Proofs.Qxb6618124a
open Go.RowKit

/-- The six cells of a header. -/
structure AtH (w : World) (b : Nat) (h0 h1 h2 h3 h4 h5 : Int) : Prop where
  c0 : w.cell? ⟨b, 0, none⟩ = some (.int .u16 h0)
  c1 : w.cell? ⟨b, 1, none⟩ = some (.int .u16 h1)
  c2 : w.cell? ⟨b, 2, none⟩ = some (.int .u16 h2)
  c3 : w.cell? ⟨b, 3, none⟩ = some (.int .u16 h3)
  c4 : w.cell? ⟨b, 4, none⟩ = some (.int .u16 h4)
  c5 : w.cell? ⟨b, 5, none⟩ = some (.int .u16 h5)

theorem AtH.below {w w' : World} {B b : Nat} {h0 h1 h2 h3 h4 h5 : Int} (h : AtH w b h0 h1 h2 h3 h4 h5) (hw : Below B w w') (hb : b < B) : AtH w' b h0 h1 h2 h3 h4 h5 :=
  ⟨(hw.cell hb).trans h.c0, (hw.cell hb).trans h.c1, (hw.cell hb).trans h.c2, (hw.cell hb).trans h.c3, (hw.cell hb).trans h.c4, (hw.cell hb).trans h.c5⟩

/-- What stands of the four slices that came in, whatever the call makes. -/
structure Base4 (w : World) (qo ao bo co : Option Addr) (qs : List Qc) (rs us ds : List Rc) (w' : World) : Prop where
  q : Qs w' qo qs
  r : Recs w' ao rs
  u : Recs w' bo us
  d : Recs w' co ds
  bel : Below w.heap.size w w'

/-- Out of the first world into any that is as it was below. -/
theorem Base4.mk0 {w : World} {qo ao bo co : Option Addr} {qs : List Qc} {rs us ds : List Rc} {w' : World} (hq : Qs w qo qs) (hr : Recs w ao rs) (hu : Recs w bo us) (hd : Recs w co ds) (hb : Below w.heap.size w w') : Base4 w qo ao bo co qs rs us ds w' :=
  ⟨hq.below hb (Nat.le_refl _), hr.below hb hr.block, hu.below hb hu.block, hd.below hb hd.block, hb⟩

theorem firstE_at (rs : List Rc) (m : Nat) (hm : m < rs.length) (hy : isOpt rs[m] = true) (hno : foundB (rs.take m) = false) (e : E4) : firstE rs e = decE rs[m] := by
  have h1 := firstE_append (rs.take m) (rs.drop m) e
  rw [List.take_append_drop, hno, if_neg (by simp)] at h1
  rw [h1, List.drop_eq_getElem_cons hm]
  unfold firstE
  rw [List.find?_cons_of_pos hy]

theorem found_sub (rs : List Rc) (K : Nat) (h : foundB rs = false) : foundB (rs.take K) = false := by
  have : ∀ r ∈ rs, isOpt r = false := by simpa [foundB] using h
  simpa [foundB] using fun r hr => this r (List.mem_of_mem_take hr)

theorem below_undrew {a b : World} (h : Below a.drew.heap.size a.drew b) : Below a.heap.size a b := ⟨h.os, h.tape, h.output, h.size, h.block⟩

/-- The loop that counts, and keeps the first. -/
def RelC (rs : List Rc) (c f i : Value) : Prop := ∃ (j : Nat) (F : Int), j ≤ rs.length ∧ i = .int .i64 j ∧ f = .int .i64 F ∧ c = .int .i64 ((rs.take j).countP isOpt : Nat) ∧
  ((F = -1 ∧ foundB (rs.take j) = false) ∨ ∃ (m : Nat) (hm : m < rs.length), F = m ∧ isOpt rs[m] = true ∧ foundB (rs.take m) = false)

theorem count_le (rs : List Rc) (j : Nat) : (rs.take j).countP isOpt ≤ rs.length := Nat.le_trans (List.countP_le_length ..) (by simp; omega)

set_option maxHeartbeats 1000000 in
theorem law3 (h0 h1 h2 h3 h4 h5 : Int) (qo : Option Addr) (qs : List Qc) (qc : Nat) (ao bo co : Option Addr) (rs us ds : List Rc) (ac bc cc : Nat) (e0 : E4) (w : World) (hqs : Qs w qo qs) (hr : Recs w ao rs) (hu : Recs w bo us) (hd : Recs w co ds)
    (nq : qo = none → qs = [] ∧ qc = 0) (nr : ao = none → rs = [] ∧ ac = 0) (nu : bo = none → us = [] ∧ bc = 0) (nd : co = none → ds = [] ∧ cc = 0)
    (lq : qs.length ≤ maxLen) (lr : rs.length ≤ maxLen) (lu : us.length ≤ maxLen) (ld : ds.length ≤ maxLen) (htt : Ttls ds) :
    Calls Try.prog 3 #[.agg #[.int .u16 h0, .int .u16 h1, .int .u16 h2, .int .u16 h3, .int .u16 h4, .int .u16 h5], .slice qo qs.length qc, .slice ao rs.length ac, .slice bo us.length bc, .slice co ds.length cc, .agg #[.int .u16 e0.a0, .int .u8 e0.a1, .int .u8 e0.a2, .int .u16 e0.a3]] w
      fun e w' => e = .returned (.bool true) ∧ Below w.heap.size w w' := by
  go_enter Try.func3, Try.ntmps3
  go_wp2_with fail
  obtain ⟨wb, hwb⟩ : ∃ wb, wb = (w.alloc (.cells #[.int .u16 h0, .int .u16 h1, .int .u16 h2, .int .u16 h3, .int .u16 h4, .int .u16 h5] 24)).alloc (.cells #[.int .u16 e0.a0, .int .u8 e0.a1, .int .u8 e0.a2, .int .u16 e0.a3] 28) := ⟨_, rfl⟩
  rw [← hwb]
  have hbb : Below w.heap.size w wb := by rw [hwb]; exact ((Below.refl _ _).alloc (Nat.le_refl _) _).alloc (by simp) _
  have hHb : AtH wb w.heap.size h0 h1 h2 h3 h4 h5 := by rw [hwb]; constructor <;> simp
  have hEb : AtE wb (w.heap.size + 1) e0 := by rw [hwb]; constructor <;> simp
  have hzb : w.heap.size + 2 ≤ wb.heap.size := by rw [hwb]; simp
  have B0 := Base4.mk0 hqs hr hu hd hbb
  clear hwb
  refine (bytes_first h0 h1 h2 h3 h4 h5 qo qs.length qc ao bo co rs us ds ac bc cc e0.a0 e0.a1 e0.a2 e0.a3 wb B0.r B0.u B0.d lq lr lu ld).mono ?_
  rintro e w1 ⟨⟨b, rfl⟩, hb1⟩
  have hB1 := hbb.trans (hb1.mono (by omega))
  have B1 := Base4.mk0 hqs hr hu hd hB1
  have hH1 := hHb.below hb1 (by omega)
  have hE1 := hEb.below hb1 hEb.lt
  have hz1 : w.heap.size + 2 ≤ w1.heap.size := by have := hb1.size; omega
  clear hb1 hHb hEb B0 hbb hzb
  cases b with
  | false =>
    go_wp2
    go_ret
    exact ⟨rfl, hB1⟩
  | true =>
    go_wp2_with fail
    refine (msg_bytes qo qs.length qc ao bo co rs us ds ac bc cc w1 B1.r B1.u B1.d lq lr lu ld).mono ?_
    rintro e w2 ⟨hw, z, rfl, hz, hzz⟩
    subst hw
    by_cases cz : 1048576 < z
    · go_wp2
      go_ret
      exact ⟨rfl, hB1⟩
    have hlen : 16 * (qs.length : Int) + 48 * (rs.length + us.length + ds.length) ≤ 1048576 := by have := hzz (by omega); omega
    obtain ⟨k0, k1, k2, k3, k4, k5⟩ := hH1
    go_wp2_with fail
    refine (msg_any h0 h1 h2 h3 h4 h5 qo qs qc ao bo co rs us ds ac bc cc w1 B1.q B1.r B1.u B1.d nq nr nu nd (by omega) (by omega) (by omega) (by omega)).mono ?_
    rintro e w3 ⟨⟨mb, a7, a8, a9, rfl, hM⟩, hb3⟩
    have hB3 := hB1.trans (hb3.mono (by omega))
    have hE3 := hE1.below hb3 hE1.lt
    have hz3 : w.heap.size + 2 ≤ w3.heap.size := by have := hb3.size; omega
    have hm3 := hM.gm
    have hm9 := hM.c9
    have hR9 := hM.r9
    have hg9 := hM.g9
    have hlm := hM.lm
    clear k0 k1 k2 k3 k4 k5 hM hE1 B1 hzz
    have hE3' := hE3
    obtain ⟨d0, d1, d2, d3, _⟩ := hE3'
    go_wp2_with fail
    obtain ⟨w4, hw4⟩ : ∃ w4, w4 = w3.alloc (.cells #[.int .u16 e0.a0, .int .u8 e0.a1, .int .u8 e0.a2, .int .u16 e0.a3] 33) := ⟨_, rfl⟩
    rw [← hw4]
    have hb4 : Below w3.heap.size w3 w4 := by rw [hw4]; exact below_alloc1 _ _
    have ha4 : AtE w4 w3.heap.size e0 := by rw [hw4]; constructor <;> simp
    clear hw4 d0 d1 d2 d3
    have hB4 := hB3.trans (hb4.mono (by omega))
    have hE4 := hE3.below hb4 (by omega)
    have hR4 := hR9.below hb4 hR9.block
    have hc4 := (hb4.cell (p := ⟨mb, 9, none⟩) hlm).trans hm9
    refine (zread_any a9 ds ds.length mb w3.heap.size e0 w4 hR4 ld (fun a ha hne => by have := hR9.block a ha hne; omega) htt hc4 ha4).mono ?_
    rintro e w5 ⟨rfl, ha5, hg5⟩
    have hb5 := below_grown (B := w3.heap.size) hg5 hb4.size (Nat.le_refl _)
    have hB5 := hB4.trans (hb5.mono (by omega))
    have hE5 := hE4.below hb5 (by omega)
    have B5 := (Base4.mk0 hqs hr hu hd hB5).d
    have hz5 : w3.heap.size < w5.heap.size := ha5.lt
    have hcl : ∀ j, (ds.take j).countP isOpt ≤ ds.length := count_le ds
    clear hb4 hb5 hg5 hc4 hR4 ha4 hE4 hE3 hm9 hR9 hg9 hB4 hB3 hb3 hz1
    clear hqs hr hu hd nq nr nu nd lq lr lu ld hB1
    go_wp2
    go_loop [17, 18, 19] (fun c f i => RelC ds c f i) (fun _ _ i => ds.length - (intOf i).toNat)
    case atStart => exact ⟨0, -1, Nat.zero_le _, rfl, rfl, by simp, .inl ⟨rfl, by simp [foundB]⟩⟩
    case round =>
      obtain ⟨j, F, hj, rfl, rfl, rfl, hF⟩ := hrel
      have hcj := hcl j
      by_cases hlt : j < ds.length
      · obtain h | ⟨b, o, rfl, hb, hc⟩ := B5
        · simp [h] at hlt
        have h61 := (hc j ds[j] (by simp)).c1
        have hlt' : (j : Int) < (ds.length : Int) := by omega
        have HC : Hid ((ds.take (j + 1)).countP isOpt = (ds.take j).countP isOpt + if isOpt ds[j] then 1 else 0) := count_snoc ds j hlt
        have HF : Hid (foundB (ds.take (j + 1)) = (foundB (ds.take j) || isOpt ds[j])) := foundB_snoc ds j hlt
        have HH : Hid ((F = -1 ∧ foundB (ds.take j) = false) ∨ ∃ (m : Nat) (hm : m < ds.length), F = m ∧ isOpt ds[m] = true ∧ foundB (ds.take m) = false) := hF
        clear hF hcl
        cases hop : (ds[j].ty == 41) with
        | true =>
          have hyes : isOpt ds[j] = true := hop
          by_cases hF0 : F < 0
          · go_wp2
            go_round
            case rel =>
              refine ⟨j + 1, j, by omega, by go_num, rfl, by rw [HC.out, if_pos hyes]; go_num, ?_⟩
              rcases HH.out with ⟨_, hno⟩ | ⟨m, hm, h, _⟩
              · exact .inr ⟨j, hlt, rfl, hyes, hno⟩
              · omega
            case measure => simp [intOf]; omega
          · go_wp2
            go_round
            case rel =>
              refine ⟨j + 1, F, by omega, by go_num, rfl, by rw [HC.out, if_pos hyes]; go_num, ?_⟩
              rcases HH.out with ⟨h, hno⟩ | h
              · omega
              · exact .inr h
            case measure => simp [intOf]; omega
        | false =>
          have hno' : isOpt ds[j] = false := hop
          go_wp2
          go_round
          case rel =>
            refine ⟨j + 1, F, by omega, by go_num, rfl, by rw [HC.out, hno']; rfl, ?_⟩
            rcases HH.out with ⟨h, hno⟩ | h
            · exact .inl ⟨h, by rw [HF.out, hno, hno']; rfl⟩
            · exact .inr h
          case measure => simp [intOf]; omega
      · obtain rfl : j = ds.length := by omega
        rw [List.take_of_length_le (Nat.le_refl _)] at hcj hF
        rw [List.take_of_length_le (Nat.le_refl _)]
        have q1 : foundB ds = decide ((1 : Int) ≤ (ds.countP isOpt : Nat)) := by rw [foundB_count, decide_eq_decide]; omega
        have q2 : severalB ds = decide ((2 : Int) ≤ (ds.countP isOpt : Nat)) := by unfold severalB; rw [decide_eq_decide]; omega
        rw [q1, q2]
        obtain ⟨d0, d1, d2, d3, _⟩ := hE5
        have hz6 : w.heap.size + 1 < w5.heap.size := by omega
        rcases hF with ⟨rfl, hno⟩ | ⟨m, hm, rfl, hy, hno⟩
        · have hC0 : ds.countP isOpt = 0 := by
            rw [q1] at hno
            simp at hno; omega
          rw [hC0]
          rw [firstE_none ds e0 hno] at ha5
          clear q1 q2 hC0 hno hcl hcj
          obtain ⟨f0, f1, f2, f3, _⟩ := ha5
          go_wp2
          go_ret
          exact ⟨rfl, hB5.alloc (by omega) _⟩
        · have hCp : 1 ≤ ds.countP isOpt := by
            have : foundB ds = true := by
              have h2 := foundB_snoc ds m hm
              rw [hy] at h2
              by_cases hf : foundB ds = true
              · exact hf
              · have := found_sub ds (m + 1) (by simpa using hf)
                rw [this] at h2; simp at h2
            rw [q1] at this
            simp at this; omega
          rw [firstE_at ds m hm hy hno e0] at ha5
          have hmem : ds[m] ∈ ds := List.getElem_mem hm
          have t0 := (htt _ hmem).1
          have t1 := (htt _ hmem).2
          obtain ⟨C, hC⟩ : ∃ C, ds.countP isOpt = C := ⟨_, rfl⟩
          rw [hC] at hCp hcj
          rw [hC]
          clear q1 q2 hno hy hcl hC
          obtain h | ⟨b, o, rfl, hb, hc⟩ := B5
          · simp [h] at hm
          have k2 := (hc m ds[m] (by simp)).c2
          have k3 := (hc m ds[m] (by simp)).c3
          have hbz : b < w5.heap.size := World.block_lt_of_cell? w5 _ k2
          have hbv := below_alloc1 w5 (.cells #[.int .u16 e0.a0, .int .u8 e0.a1, .int .u8 e0.a2, .int .u16 e0.a3] 33)
          go_wp2
          obtain ⟨wv, hwv⟩ : ∃ wv, wv = w5.alloc (.cells #[.int .u16 e0.a0, .int .u8 e0.a1, .int .u8 e0.a2, .int .u16 e0.a3] 33) := ⟨_, rfl⟩
          rw [← hwv] at hbv
          rw [← hwv]
          have hWv : AtE wv w5.heap.size e0 := by rw [hwv]; constructor <;> simp
          have hAv := ha5.below hbv ha5.lt
          have hBv := hB5.trans (hbv.mono (by omega))
          have v2 := (hbv.cell (p := ⟨b, o + m * 6 + 2, none⟩) hbz).trans k2
          have v3 := (hbv.cell (p := ⟨b, o + m * 6 + 3, none⟩) hbz).trans k3
          have hne1 : b ≠ w5.heap.size := by omega
          have hne2 : w5.heap.size ≠ b := by omega
          have hm' : (m : Int) < (ds.length : Int) := by omega
          have hm0 : (0 : Int) ≤ (m : Int) := by omega
          have hne3 : w3.heap.size ≠ w5.heap.size := by omega
          have hne4 : w5.heap.size ≠ w3.heap.size := by omega
          clear hwv d0 d1 d2 d3 k2 k3 hbv
          go_region_held3 (fun W => W.cell? ⟨b, o + m * 6 + 2, none⟩ = some (.int .u16 ds[m].cls) ∧ W.cell? ⟨b, o + m * 6 + 3, none⟩ = some (.int .u32 ds[m].ttl)) (go_keep)
            (first
              | (go_at_call 11; refine (decode_any ds[m].cls ds[m].ttl _ t0 t1).mono ?_; rintro e w6 ⟨rfl, hb6d⟩
                 have hb6 := below_undrew hb6d
                 have g2 := (hb6.cell (p := ⟨b, o + m * 6 + 2, none⟩) (World.block_lt_of_cell? wv _ v2)).trans v2
                 have g3 := (hb6.cell (p := ⟨b, o + m * 6 + 3, none⟩) (World.block_lt_of_cell? wv _ v3)).trans v3
                 have hW6 : AtE w6 w5.heap.size e0 := hWv.below hb6 hWv.lt
                 have hA6 : AtE w6 w3.heap.size (decE ds[m]) := hAv.below hb6 hAv.lt
                 have hB6 : Below w.heap.size w w6 := hBv.trans (hb6.mono hBv.size)
                 have hW6' := hW6
                 obtain ⟨p0, p1, p2, p3, pf⟩ := hW6'
                 have pf0 := pf 0
                 have pf1 := pf 1
                 have pf2 := pf 2
                 have pf3 := pf 3))
          obtain ⟨wf, hwf⟩ : ∃ wf, wf = (((w6.setCell ⟨w5.heap.size, 0, none⟩ (.int .u16 ds[m].cls)).setCell ⟨w5.heap.size, 1, none⟩ (.int .u8 (ds[m].ttl / 16777216))).setCell ⟨w5.heap.size, 2, none⟩ (.int .u8 (ds[m].ttl / 65536 % 256))).setCell ⟨w5.heap.size, 3, none⟩ (.int .u16 (ds[m].ttl % 65536)) := ⟨_, rfl⟩
          rw [← hwf]
          have hwf' : wf = w6.setCells w5.heap.size 0 (decE ds[m]).vals := hwf
          have hWf : AtE wf w5.heap.size (decE ds[m]) := by rw [hwf']; exact hW6.stored _
          have hAf : AtE wf w3.heap.size (decE ds[m]) := by rw [hwf']; exact hA6.grown (grownBy_setCells _ _ _ _) hne3
          have hBf : Below w.heap.size w wf := by rw [hwf']; exact Below.setCells hB6 (by omega) _ _
          unfold decE at hWf hAf
          obtain ⟨x0, x1, x2, x3, _⟩ := hWf
          obtain ⟨y0, y1, y2, y3, _⟩ := hAf
          clear hwf hwf' p0 p1 p2 p3 pf pf0 pf1 pf2 pf3 g2 g3 hA6 hW6
          go_wp2
          go_ret
          exact ⟨rfl, hBf⟩
end Go.Proofs.Qxb6618124a
