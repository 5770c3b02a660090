import Derived.Test.Qxb6618767aDoorI3
namespace Go.Proofs.Qxb6618767aDoor
open Go.RowKit

/-- The reader's row has been filled anew. -/
theorem fill_end {w0 w1 w2 w6 : World} {p q d s o g : Nat} {D : List Value} {i a n : Nat} {cq : Array Value} {lb lr : Int} (H : RS w0 p q d s o D i a a []) (hqs : cq.size = 16384) (hn : n ≤ 16384) (hnD : n ≤ D.length - i) (hK1 : KB (fun k => k = p) w0 w1)
    (hB : BRd w2 d s o D (i + n)) (HG : w2.heap[q]? = some (.cells (splice cq.toList 0 ((D.drop i).take n)).toArray 5 (0, 0))) (hK2 : KB (fun k => k = d ∨ k = q) w1 w2)
    (h6 : w6.heap[p]? = some (.cells #[.slice (some ⟨q, 0, none⟩) 16384 16384, .iface 53 (.pointer (some ⟨d, 0, none⟩)), .int .i64 (0 : Nat), .int .i64 n, .nilIface, .int .i64 lb, .int .i64 lr] 89 (0, 0))) (hK6 : KB (fun k => k = p) w2 w6) :
    RS w6 p q d s o D (i + n) 0 n ((D.drop i).take n) ∧ KB (RdS p q d g) w0 w6 := by
  have hl : ((D.drop i).take n).length = n := by rw [List.length_take, List.length_drop]; omega
  have e5 : cq.toList.length = 16384 := by simpa using hqs
  have hfit : 0 + ((D.drop i).take n).length ≤ cq.toList.length := by rw [hl, e5]; omega
  refine ⟨⟨⟨lb, lr, h6⟩, ⟨_, hK6.heap HG (fun e => H.pq e.symm), ?_, ?_⟩, by rw [hl]; omega, hn, hB.kb hK6 (fun e => H.pd e.symm) (fun e => H.ps e.symm), H.pq, H.pd, H.qd, H.ps, H.qs, H.uD, fun v hv => H.uD v (List.mem_of_mem_drop (List.mem_of_mem_take hv))⟩, ?_⟩
  · rw [List.size_toArray, length_splice _ _ _ hfit]; exact e5
  · have ht := splice_take cq.toList ((D.drop i).take n) 0 hfit
    rw [hl, Nat.zero_add, List.take_zero, List.nil_append] at ht
    rw [List.drop_zero]
    exact ht
  · exact ((hK1.mono (fun k e => (show RdS p q d g k from .inl e))).trans hK2 (fun _ _ e => e.elim (fun e => .inr (.inr (.inl e))) (fun e => .inr (.inl e)))).trans hK6 (fun _ _ e => .inl e)

theorem hK2g {w0 w1 w2 : World} {p q d g : Nat} {ob : Obj} (h : w0.heap[g]? = some ob) (hK1 : KB (fun k => k = p) w0 w1) (hK2 : KB (fun k => k = d ∨ k = q) w1.drew w2) (hgp : g ≠ p) (hgd : g ≠ d) (hgq : g ≠ q) : w2.heap[g]? = some ob :=
  hK2.heap ((hK1.drewN 1).heap h hgp) (fun e => e.elim hgd hgq)

set_option maxHeartbeats 8000000 in
set_option maxRecDepth 100000 in
theorem read_fill (p q d s o g off L cL : Nat) (D : List Value) (i a' : Nat) (cur : Array Value) (w : World) (h : RS w p q d s o D i a' a' []) (hi : i < D.length) (hD : D.length ≤ 1073741824) (hL : 0 < L) (hL16 : L < 16384) (hgp : g ≠ p) (hgq : g ≠ q) (hgd : g ≠ d) (hgs : g ≠ s)
    (hg : w.heap[g]? = some (.cells cur 5 (0, 0))) (hfit : off + L ≤ cur.size) :
    Calls Tryd.prog 87 #[.pointer (some ⟨p, 0, none⟩), .slice (some ⟨g, off, none⟩) L cL] w fun e w' => ReadOut w p q d s o g off L D cur (D.drop i) e w' := by
  obtain ⟨lb', lr', hp⟩ := h.hp
  have c2 : w.cell? ⟨p, 2, none⟩ = some (.int .i64 a') := by rw [Lib.cell_of_heap hp]; rfl
  have c3 : w.cell? ⟨p, 3, none⟩ = some (.int .i64 a') := by rw [Lib.cell_of_heap hp]; rfl
  have hlb : ((L : Int) == 0) = false := by rw [beq_eq_false_iff_ne]; omega
  have hLi : ¬ (L : Int) ≥ 16384 := by omega
  obtain ⟨n1, hn⟩ : ∃ n1, n1 = Nat.min (D.length - i) 16384 := ⟨_, rfl⟩
  have hnD1 : n1 ≤ D.length - i := by rw [hn]; exact Nat.min_le_left _ _
  have hn16 : n1 ≤ 16384 := by rw [hn]; exact Nat.min_le_right _ _
  have hn10 : 0 < n1 := by rw [hn]; exact Nat.lt_min.2 ⟨by omega, by omega⟩
  have n1a : ¬ (n1 : Int) < 0 := by omega
  have n1b : ((n1 : Int) == 0) = false := by rw [beq_eq_false_iff_ne]; omega
  have H := Lib.hid h
  have HP := Lib.hid hp
  have HGW := Lib.hid hg
  have HN := Lib.hid hn
  have hm : ∀ (x : Value) (W : World), Sem.run Tryd.prog (method 239 53 x "Read") W = .ok (86, x) W := methodRead
  clear h hp hg hn
  go_enter Tryd.func87, Tryd.ntmps87
  go_wp2
  go_quiet (fail)
  obtain ⟨w0, hw0⟩ : ∃ w0, w0 = w.drewN nq := ⟨_, rfl⟩
  rw [← hw0]
  have HR0 : Hid (RS w0 p q d s o D i a' a' []) := Lib.hid (by rw [hw0]; exact H.out.drewN nq)
  have HGR : Hid (w0.heap[g]? = some (.cells cur 5 (0, 0))) := Lib.hid (by rw [hw0, drewN_heap]; exact HGW.out)
  have HKR : Hid (KB (RdS p q d g) w w0) := Lib.hid (by rw [hw0]; exact (KB.refl _ w).drewN nq)
  have hp0 := HP.out
  rw [← drewN_heap w nq, ← hw0] at hp0
  have e0 : w0.cell? ⟨p, 0, none⟩ = some (.slice (some ⟨q, 0, none⟩) 16384 16384) := by rw [Lib.cell_of_heap hp0]; rfl
  have e2 : w0.cell? ⟨p, 2, none⟩ = some (.int .i64 a') := by rw [Lib.cell_of_heap hp0]; rfl
  have e3 : w0.cell? ⟨p, 3, none⟩ = some (.int .i64 a') := by rw [Lib.cell_of_heap hp0]; rfl
  have e4 : w0.cell? ⟨p, 4, none⟩ = some .nilIface := by rw [Lib.cell_of_heap hp0]; rfl
  have f2 : w0.frozen? ⟨p, 2, none⟩ = false := Lib.frozen_of_heap hp0 2
  have f3 : w0.frozen? ⟨p, 3, none⟩ = false := Lib.frozen_of_heap hp0 3
  have HPR := Lib.hid hp0
  clear hw0 c2 c3 hp0
  go_wp2_with fail
  obtain ⟨w1, hw1⟩ : ∃ w1, w1 = (w0.setCell ⟨p, 2, none⟩ (.int .i64 0)).setCell ⟨p, 3, none⟩ (.int .i64 0) := ⟨_, rfl⟩
  rw [← hw1]
  have hp1 : w1.heap[p]? = some (.cells #[.slice (some ⟨q, 0, none⟩) 16384 16384, .iface 53 (.pointer (some ⟨d, 0, none⟩)), .int .i64 0, .int .i64 0, .nilIface, .int .i64 lb', .int .i64 lr'] 89 (0, 0)) := by
    rw [hw1]
    exact heap_setCell_same _ p 3 _ 89 _ (heap_setCell_same w0 p 2 _ 89 _ HPR.out)
  have hK1 : KB (fun k => k = p) w0 w1 := by rw [hw1]; exact ((KB.refl (fun k => k = p) w0).setCell p 2 _ rfl).setCell p 3 _ rfl
  obtain ⟨cq', hqR, hqsR, _⟩ := HR0.out.hq
  have hq1 := hK1.heap hqR (fun e => HR0.out.pq e.symm)
  have hB1 : BRd w1.drew d s o D i := (HR0.out.rd.kb hK1 (fun e => HR0.out.pd e.symm) (fun e => HR0.out.ps e.symm)).kb ((KB.refl (fun _ => False) w1).drewN 1) id id
  have z0 : w1.cell? ⟨p, 0, none⟩ = some (.slice (some ⟨q, 0, none⟩) 16384 16384) := by rw [Lib.cell_of_heap hp1]; rfl
  have z1 : w1.cell? ⟨p, 1, none⟩ = some (.iface 53 (.pointer (some ⟨d, 0, none⟩))) := by rw [Lib.cell_of_heap hp1]; rfl
  have HP1 := Lib.hid hp1
  have HK1 := Lib.hid hK1
  have HQ1 := Lib.hid hq1
  have HB1 := Lib.hid hB1
  have HQSR := Lib.hid hqsR
  have hfq : 0 + 16384 ≤ cq'.size := by omega
  have HFQ := Lib.hid hfq
  clear hw1 hp1 hK1 hqR hqsR hq1 hB1 hfq e0 e2 e3 e4 f2 f3
  have mixed : Tryd.prog.follows Departure.mixedOrders = true := by kernel_rfl
  go_region_with_o (
    go_at_call 86
    refine (bread_any d s o i q 0 16384 16384 n1 D cq' _ HB1.out hi hD HN.out HR0.out.qd HR0.out.qs ?_ HFQ.out HR0.out.uD.one).mono ?_
    exact HQ1.out
    rintro e w2 ⟨hB2, rfl, hG2, hK2⟩
    have hp2 := hK2.heap HP1.out (fun e => e.elim HR0.out.pd HR0.out.pq)
    have g4 : w2.cell? ⟨p, 4, none⟩ = some .nilIface := (by rw [Lib.cell_of_heap hp2]; rfl)
    have k4 : w2.frozen? ⟨p, 4, none⟩ = false := Lib.frozen_of_heap hp2 4
    have g3 : w2.cell? ⟨p, 3, none⟩ = some (.int .i64 0) := (by rw [Lib.cell_of_heap hp2]; rfl)
    have k3 : w2.frozen? ⟨p, 3, none⟩ = false := Lib.frozen_of_heap hp2 3
    have HB2 := Lib.hid hB2
    have HG2 := Lib.hid hG2
    have HK2 := Lib.hid hK2
    have HP2 := Lib.hid hp2
    clear hB2 hG2 hK2 hp2)
  all_goals (
    go_wp2_with fail
    obtain ⟨w6, hw6⟩ : ∃ w6, w6 = (w2.setCell ⟨p, 4, none⟩ .nilIface).setCell ⟨p, 3, none⟩ (.int .i64 n1) := ⟨_, rfl⟩
    rw [← hw6]
    have hp6 : w6.heap[p]? = some (.cells #[.slice (some ⟨q, 0, none⟩) 16384 16384, .iface 53 (.pointer (some ⟨d, 0, none⟩)), .int .i64 (0 : Nat), .int .i64 n1, .nilIface, .int .i64 lb', .int .i64 lr'] 89 (0, 0)) := by
      rw [hw6]
      exact heap_setCell_same _ p 3 _ 89 _ (heap_setCell_same w2 p 4 _ 89 _ HP2.out)
    have hK6 : KB (fun k => k = p) w2 w6 := by rw [hw6]; exact ((KB.refl (fun k => k = p) w2).setCell p 4 _ rfl).setCell p 3 _ rfl
    have hfe := fill_end (g := g) HR0.out HQSR.out hn16 hnD1 (HK1.out.drewN 1) HB2.out HG2.out HK2.out hp6 hK6
    have hgF := hK6.heap (hK2g HGR.out HK1.out HK2.out hgp hgd hgq) hgp
    obtain ⟨F, hFe⟩ : ∃ F, F = (D.drop i).take n1 := ⟨_, rfl⟩
    rw [← hFe] at hfe
    have hF : 0 < F.length := by rw [hFe, List.length_take, List.length_drop]; omega
    have hstr : F ++ D.drop (i + n1) = D.drop i := by rw [hFe, ← List.drop_drop]; exact List.take_append_drop n1 _
    obtain ⟨i2, hi2⟩ : ∃ i2, i2 = i + n1 := ⟨_, rfl⟩
    rw [← hi2] at hfe hstr
    obtain ⟨wF, hwF⟩ : ∃ wF, wF = w6 := ⟨_, rfl⟩
    rw [← hwF] at hfe hgF ⊢
    obtain ⟨b, hb0⟩ : ∃ b, b = n1 := ⟨_, rfl⟩
    obtain ⟨a, ha0⟩ : ∃ a : Nat, a = 0 := ⟨_, rfl⟩
    rw [← hb0, ← ha0] at hfe
    have H0 := Lib.hid hfe.1
    have HKF := Lib.hid hfe.2
    have HG0 := Lib.hid hgF
    have HSTR : Hid (∀ (e : Ending) (w' : World), ReadOut wF p q d s o g off L D cur (F ++ D.drop i2) e w' → ReadOut wF p q d s o g off L D cur (D.drop i) e w') := Lib.hid (by intro e w' h; rw [hstr] at h; exact h)
    clear hw6 hp6 hK6 hfe hgF hFe hstr hi2 hwF hb0 ha0 g3 k3 g4 k4 z0 z1
    obtain ⟨lb, lr, hp0⟩ := H0.out.hp
    obtain ⟨cq, hq0, hqs, hqF⟩ := H0.out.hq
    have hab := H0.out.ab
    have hb := H0.out.b_
    have hg0 := HG0.out
    obtain ⟨n, hn⟩ : ∃ n, n = Nat.min F.length L := ⟨_, rfl⟩
    have hnF : n ≤ F.length := by rw [hn]; exact Nat.min_le_left _ _
    have hnL : n ≤ L := by rw [hn]; exact Nat.min_le_right _ _
    have hn0 : 0 < n := by rw [hn]; exact Nat.lt_min.2 ⟨hF, hL⟩
    have e0 : wF.cell? ⟨p, 0, none⟩ = some (.slice (some ⟨q, 0, none⟩) 16384 16384) := by rw [Lib.cell_of_heap hp0]; rfl
    have e2 : wF.cell? ⟨p, 2, none⟩ = some (.int .i64 a) := by rw [Lib.cell_of_heap hp0]; rfl
    have e3 : wF.cell? ⟨p, 3, none⟩ = some (.int .i64 b) := by rw [Lib.cell_of_heap hp0]; rfl
    have hba : b - a = F.length := by omega
    have haL : a ≤ b := by omega
    have ha1 : ¬ 16384 = a := by omega
    have hbi : (b : Int) ≤ 16384 := by omega
    have hlen : (F.take n).length = n := by rw [List.length_take]; omega
    have hmin2 : (F.take n).length = Nat.min (b - a) L := by rw [hlen, hba]; exact hn
    have hFat : ∀ j v, F[j]? = some v → cq[a + j]? = some v := by
      intro j v hj
      have hl := (List.getElem?_eq_some_iff.1 hj).1
      rw [← hqF, List.getElem?_drop, List.getElem?_take_of_lt (by omega)] at hj
      simpa using hj
    have hSF : Src wF.drew q a F := ⟨cq, 5, _, hq0, hFat⟩
    have hsrc := (hSF.take n).cell
    have hft : off + (F.take n).length ≤ cur.toList.length := by rw [hlen, Array.length_toList]; omega
    have hone : ∀ v ∈ F.take n, v.oneCell' = true := fun v hv => H0.out.uF.one v (List.mem_of_mem_take hv)
    have hg1 : wF.drew.heap[g]? = some (.cells cur.toList.toArray 5 (0, 0)) := by rw [Array.toArray_toList]; exact hg0
    obtain ⟨rr, hrr⟩ : ∃ rr, rr + 1 = a + n := ⟨a + n - 1, by omega⟩
    obtain ⟨x, hx⟩ : ∃ x : Int, cq[rr]? = some (.int .u8 x) := by
      have hl : n - 1 < F.length := by omega
      obtain ⟨x, hx⟩ := H0.out.uF F[n - 1] (List.getElem_mem _)
      refine ⟨x, ?_⟩
      have := hFat (n - 1) _ (List.getElem?_eq_getElem hl)
      rw [hx] at this
      have e : a + (n - 1) = rr := by omega
      rwa [e] at this
    have hr16 : (rr : Int) < 16384 := by omega
    have HP0 := Lib.hid hp0
    have HQ0 := Lib.hid hq0
    have HX := Lib.hid hx
    have HM2 := Lib.hid hmin2
    have HL := Lib.hid hlen
    have HS := Lib.hid hsrc
    have HF := Lib.hid hft
    have HO := Lib.hid hone
    have HG1 := Lib.hid hg1
    have HRR := Lib.hid hrr
    have HAB := Lib.hid hab
    clear hp0 hq0 hqs hqF hg0 hab hba hlen hmin2 hFat hSF hsrc hft hone hg1 hx hrr hn
    go_region_law (refine step_copy_kb rfl (.tmp 109) (.tmp 122) 22 22 rfl 5 Tryd.underlying22 Tryd.size5 _ _ _ _ _ _ rfl rfl g off cur.toList 5 HG1.out (F.take n) HM2.out (fun _ => ⟨rfl, _, rfl, HS.out⟩) HF.out HO.out ?_; rw [HL.out]; intro w3 HG hK3)
    all_goals (
      have hK3' : KB (fun k => k = g) wF w3 := ((KB.refl _ wF).drewN 1).trans hK3 (fun _ _ e => e)
      have hp3 := hK3'.heap HP0.out (fun e => hgp e.symm)
      have hq3 := hK3'.heap HQ0.out (fun e => hgq e.symm)
      have x1 : w3.cell? ⟨p, 2, none⟩ = some (.int .i64 a) := by rw [Lib.cell_of_heap hp3]; rfl
      have y1 : w3.frozen? ⟨p, 2, none⟩ = false := Lib.frozen_of_heap hp3 2
      have HK3 := Lib.hid hK3'
      have HP3 := Lib.hid hp3
      have HQ3 := Lib.hid hq3
      have hin : (a : Int) + (n : Int) ≤ 16384 := by have := HAB.out; omega
      clear hK3 hK3' hp3 hq3
      go_wp2
      obtain ⟨w4, hw4⟩ : ∃ w4, w4 = w3.setCell ⟨p, 2, none⟩ (.int .i64 ((a : Int) + (n : Int))) := ⟨_, rfl⟩
      rw [← hw4]
      have hri : ((a : Int) + (n : Int)) = (rr : Int) + 1 := by have := HRR.out; omega
      have hp4 : w4.heap[p]? = some (.cells #[.slice (some ⟨q, 0, none⟩) 16384 16384, .iface 53 (.pointer (some ⟨d, 0, none⟩)), .int .i64 ((rr : Int) + 1), .int .i64 b, .nilIface, .int .i64 lb, .int .i64 lr] 89 (0, 0)) := by rw [hw4, hri, heap_setCell_same w3 p 2 _ 89 _ HP3.out]; rfl
      have hK4 : KB (fun k => k = p) w3 w4 := by rw [hw4]; exact (KB.refl _ w3).setCell p 2 _ rfl
      have hq4 := hK4.heap HQ3.out (fun e => H0.out.pq e.symm)
      have z0 : w4.cell? ⟨p, 0, none⟩ = some (.slice (some ⟨q, 0, none⟩) 16384 16384) := by rw [Lib.cell_of_heap hp4]; rfl
      have z2 : w4.cell? ⟨p, 2, none⟩ = some (.int .i64 ((rr : Int) + 1)) := by rw [Lib.cell_of_heap hp4]; rfl
      have z5 : w4.cell? ⟨p, 5, none⟩ = some (.int .i64 lb) := by rw [Lib.cell_of_heap hp4]; rfl
      have f5 : w4.frozen? ⟨p, 5, none⟩ = false := Lib.frozen_of_heap hp4 5
      have zq : w4.cell? ⟨q, rr, none⟩ = some (.int .u8 x) := by rw [Lib.cell_of_heap hq4]; exact HX.out
      have HP4 := Lib.hid hp4
      have HK4 := Lib.hid hK4
      clear hw4 hri hp4 hK4 hq4 x1 y1
      go_region
      all_goals (
        obtain ⟨w5, hw5⟩ : ∃ w5, w5 = (w4.setCell ⟨p, 5, none⟩ (.int .i64 (wrap64 x))).drew := ⟨_, rfl⟩
        rw [← hw5]
        have hp5 : w5.heap[p]? = some (.cells #[.slice (some ⟨q, 0, none⟩) 16384 16384, .iface 53 (.pointer (some ⟨d, 0, none⟩)), .int .i64 ((rr : Int) + 1), .int .i64 b, .nilIface, .int .i64 (wrap64 x), .int .i64 lr] 89 (0, 0)) := by
          rw [hw5]
          exact heap_setCell_same w4 p 5 _ 89 _ HP4.out
        have hK5 : KB (fun k => k = p) w3 w5 := by rw [hw5]; exact (HK4.out.setCell p 5 _ rfl).drewN 1
        have z6 : w5.cell? ⟨p, 6, none⟩ = some (.int .i64 lr) := by rw [Lib.cell_of_heap hp5]; rfl
        have f6 : w5.frozen? ⟨p, 6, none⟩ = false := Lib.frozen_of_heap hp5 6
        have HP5 := Lib.hid hp5
        have HK5 := Lib.hid hK5
        clear hw5 hp5 hK5 z0 z2 z5 f5 zq
        go_wp2
        go_ret2
        exact ReadOut.from HKR.out (ReadOut.from HKF.out (HSTR.out _ _ (buf_end H0.out hn0 hnL hnF hgp hgq hgd hgs HG.out HK3.out HRR.out HP5.out HK5.out))))))
end Go.Proofs.Qxb6618767aDoor
