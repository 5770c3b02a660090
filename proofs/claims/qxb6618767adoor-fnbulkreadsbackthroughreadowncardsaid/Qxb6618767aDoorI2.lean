import Derived.Test.Qxb6618767aDoorI1
namespace Go.Proofs.Qxb6618767aDoor
open Go.RowKit

def B8 (cs : List Value) : Prop := ∀ v ∈ cs, ∃ x : Int, v = .int .u8 x

theorem B8.one {cs : List Value} (h : B8 cs) : ∀ v ∈ cs, v.oneCell' = true := fun v hv => by
  obtain ⟨x, rfl⟩ := h v hv
  rfl

/-- A bufio.Reader at block p, its row q, over the bytes.Reader at d: F waits in the row from a to b. -/
structure RS (w : World) (p q d s o : Nat) (D : List Value) (i a b : Nat) (F : List Value) : Prop where
  hp : ∃ lb lr : Int, w.heap[p]? = some (.cells #[.slice (some ⟨q, 0, none⟩) 16384 16384, .iface 53 (.pointer (some ⟨d, 0, none⟩)), .int .i64 a, .int .i64 b, .nilIface, .int .i64 lb, .int .i64 lr] 89 (0, 0))
  hq : ∃ cur : Array Value, w.heap[q]? = some (.cells cur 5 (0, 0)) ∧ cur.size = 16384 ∧ (cur.toList.take b).drop a = F
  ab : a + F.length = b
  b_ : b ≤ 16384
  rd : BRd w d s o D i
  pq : p ≠ q
  pd : p ≠ d
  qd : q ≠ d
  ps : p ≠ s
  qs : q ≠ s
  uD : B8 D
  uF : B8 F

def RdS (p q d g k : Nat) : Prop := k = p ∨ k = q ∨ k = d ∨ k = g

def ReadOut (w : World) (p q d s o g off L : Nat) (D : List Value) (cur : Array Value) (R : List Value) (e : Ending) (w' : World) : Prop :=
  ∃ (n i a b : Nat) (F : List Value), 0 < n ∧ n ≤ L ∧ n ≤ R.length ∧ F ++ D.drop i = R.drop n ∧ RS w' p q d s o D i a b F ∧ Got w g off cur R n (RdS p q d g) e w'

theorem RS.drewN {w : World} {p q d s o : Nat} {D : List Value} {i a b : Nat} {F : List Value} (H : RS w p q d s o D i a b F) (n : Nat) : RS (w.drewN n) p q d s o D i a b F := by
  obtain ⟨lb, lr, hp⟩ := H.hp
  obtain ⟨cq, hq, h2⟩ := H.hq
  obtain ⟨c, pr, hc, hd⟩ := H.rd.hd
  exact ⟨⟨lb, lr, by rw [drewN_heap]; exact hp⟩, ⟨cq, by rw [drewN_heap]; exact hq, h2⟩, H.ab, H.b_, ⟨⟨c, pr, hc, by rw [drewN_heap]; exact hd⟩, H.rd.src.drewN n, H.rd.sd, H.rd.hi⟩, H.pq, H.pd, H.qd, H.ps, H.qs, H.uD, H.uF⟩

/-- The reader after n bytes have been taken out of its row. -/
theorem RS.took {w w1 w5 : World} {p q d s o g off : Nat} {D : List Value} {i a b n : Nat} {F : List Value} {cur : Array Value} (H : RS w p q d s o D i a b F) (hn : n ≤ F.length) (hgp : g ≠ p) (hgq : g ≠ q) (hgd : g ≠ d) (hgs : g ≠ s)
    (HG : w1.heap[g]? = some (.cells (splice cur.toList off (F.take n)).toArray 5 (0, 0))) (hK1 : KB (fun k => k = g) w w1) (x y : Int)
    (h5 : w5.heap[p]? = some (.cells #[.slice (some ⟨q, 0, none⟩) 16384 16384, .iface 53 (.pointer (some ⟨d, 0, none⟩)), .int .i64 (a + n : Nat), .int .i64 b, .nilIface, .int .i64 x, .int .i64 y] 89 (0, 0))) (hK5 : KB (fun k => k = p) w1 w5) :
    RS w5 p q d s o D i (a + n) b (F.drop n) ∧ w5.heap[g]? = some (.cells (splice cur.toList off (F.take n)).toArray 5 (0, 0)) ∧ KB (RdS p q d g) w w5 := by
  have hK : KB (fun k => k = p ∨ k = g) w w5 := (hK1.mono (fun _ e => .inr e)).trans hK5 (fun _ _ e => .inl e)
  obtain ⟨cq, h1, h2, h3⟩ := H.hq
  obtain ⟨c, pr, hc, hd⟩ := H.rd.hd
  have nd : ∀ k, k ≠ p → k ≠ g → ¬ (k = p ∨ k = g) := fun k h1 h2 e => e.elim h1 h2
  refine ⟨⟨⟨x, y, h5⟩, ⟨cq, hK.heap h1 (nd q (fun e => H.pq e.symm) (fun e => hgq e.symm)), h2, ?_⟩, by have := H.ab; rw [List.length_drop]; omega, H.b_, ⟨⟨c, pr, hc, hK.heap hd (nd d (fun e => H.pd e.symm) (fun e => hgd e.symm))⟩, H.rd.src.kb hK (nd s (fun e => H.ps e.symm) (fun e => hgs e.symm)), H.rd.sd, H.rd.hi⟩, H.pq, H.pd, H.qd, H.ps, H.qs, H.uD, fun v hv => H.uF v (List.mem_of_mem_drop hv)⟩, hK5.heap HG hgp, hK.mono (fun k e => e.elim .inl (fun e => .inr (.inr (.inr e))))⟩
  rw [← h3, List.drop_drop]

theorem buf_end {w w3 w5 : World} {p q d s o g off L : Nat} {D : List Value} {i a b n rr : Nat} {F : List Value} {cur : Array Value} {x lr : Int} (H : RS w p q d s o D i a b F) (hn0 : 0 < n) (hnL : n ≤ L) (hnF : n ≤ F.length) (hgp : g ≠ p) (hgq : g ≠ q) (hgd : g ≠ d) (hgs : g ≠ s)
    (HG : w3.heap[g]? = some (.cells (splice cur.toList off (F.take n)).toArray 5 (0, 0))) (hK3 : KB (fun k => k = g) w w3) (hrr : rr + 1 = a + n)
    (h5 : w5.heap[p]? = some (.cells #[.slice (some ⟨q, 0, none⟩) 16384 16384, .iface 53 (.pointer (some ⟨d, 0, none⟩)), .int .i64 ((rr : Int) + 1), .int .i64 b, .nilIface, .int .i64 x, .int .i64 lr] 89 (0, 0))) (hK5 : KB (fun k => k = p) w3 w5) :
    ReadOut w p q d s o g off L D cur (F ++ D.drop i) (.returned (.tuple #[.int .i64 n, .nilIface])) (w5.setCell ⟨p, 6, none⟩ (.int .i64 (-1))) := by
  have e : ((rr : Int) + 1) = ((a + n : Nat) : Int) := by omega
  rw [e] at h5
  obtain ⟨h1, h2, h3⟩ := H.took hnF hgp hgq hgd hgs HG hK3 x (-1) (w5 := w5.setCell ⟨p, 6, none⟩ (.int .i64 (-1))) (by rw [heap_setCell_same w5 p 6 _ 89 _ h5]; rfl) (hK5.setCell p 6 _ rfl)
  refine ⟨n, i, a + n, b, F.drop n, hn0, hnL, by rw [List.length_append]; omega, ?_, h1, rfl, ?_, h3⟩
  · rw [List.drop_append_of_le_length hnF]
  · rw [List.take_append_of_le_length hnF]; exact h2

theorem ReadOut.from {w w0 w' : World} {p q d s o g off L : Nat} {D R : List Value} {cur : Array Value} {e : Ending} (hK : KB (RdS p q d g) w w0) (h : ReadOut w0 p q d s o g off L D cur R e w') : ReadOut w p q d s o g off L D cur R e w' := by
  obtain ⟨n, i, a, b, F, h1, h2, h3, h4, h5, h6, h7, h8⟩ := h
  exact ⟨n, i, a, b, F, h1, h2, h3, h4, h5, h6, h7, hK.trans h8 (fun _ _ e => e)⟩

set_option maxHeartbeats 4000000 in
set_option maxRecDepth 100000 in
theorem read_buf (p q d s o g off L cL : Nat) (D : List Value) (i a b : Nat) (F : List Value) (cur : Array Value) (w : World) (h : RS w p q d s o D i a b F) (hF : 0 < F.length) (hL : 0 < L) (hgp : g ≠ p) (hgq : g ≠ q) (hgd : g ≠ d) (hgs : g ≠ s)
    (hg : w.heap[g]? = some (.cells cur 5 (0, 0))) (hfit : off + L ≤ cur.size) :
    Calls Tryd.prog 87 #[.pointer (some ⟨p, 0, none⟩), .slice (some ⟨g, off, none⟩) L cL] w fun e w' => ReadOut w p q d s o g off L D cur (F ++ D.drop i) e w' := by
  obtain ⟨lb', lr', hp⟩ := h.hp
  have hab' := h.ab
  have c2 : w.cell? ⟨p, 2, none⟩ = some (.int .i64 a) := by rw [Lib.cell_of_heap hp]; rfl
  have c3 : w.cell? ⟨p, 3, none⟩ = some (.int .i64 b) := by rw [Lib.cell_of_heap hp]; rfl
  have hlb : ((L : Int) == 0) = false := by rw [beq_eq_false_iff_ne]; omega
  have hab2 : ((a : Int) == (b : Int)) = false := by rw [beq_eq_false_iff_ne]; omega
  have H := Lib.hid h
  have HGW := Lib.hid hg
  clear h hp hg hab'
  go_enter Tryd.func87, Tryd.ntmps87
  go_wp2
  go_quiet (fail)
  go_wp2
  obtain ⟨w0, hw0⟩ : ∃ w0, w0 = w.drewN nq := ⟨_, rfl⟩
  rw [← hw0]
  have H0 : Hid (RS w0 p q d s o D i a b F) := Lib.hid (by rw [hw0]; exact H.out.drewN nq)
  have HG0 : Hid (w0.heap[g]? = some (.cells cur 5 (0, 0))) := Lib.hid (by rw [hw0, drewN_heap]; exact HGW.out)
  have HK0 : Hid (KB (RdS p q d g) w w0) := Lib.hid (by rw [hw0]; exact (KB.refl _ w).drewN nq)
  clear hw0 c2 c3
  obtain ⟨lb, lr, hp0⟩ := H0.out.hp
  obtain ⟨cq, hq0, hqs, hqF⟩ := H0.out.hq
  have hab := H0.out.ab
  have hb := H0.out.b_
  have hg0 := HG0.out
  obtain ⟨n, hn⟩ : ∃ n, n = Nat.min F.length L := ⟨_, rfl⟩
  have hnF : n ≤ F.length := by rw [hn]; exact Nat.min_le_left _ _
  have hnL : n ≤ L := by rw [hn]; exact Nat.min_le_right _ _
  have hn0 : 0 < n := by rw [hn]; exact Nat.lt_min.2 ⟨hF, hL⟩
  have e0 : w0.cell? ⟨p, 0, none⟩ = some (.slice (some ⟨q, 0, none⟩) 16384 16384) := by rw [Lib.cell_of_heap hp0]; rfl
  have e2 : w0.cell? ⟨p, 2, none⟩ = some (.int .i64 a) := by rw [Lib.cell_of_heap hp0]; rfl
  have e3 : w0.cell? ⟨p, 3, none⟩ = some (.int .i64 b) := by rw [Lib.cell_of_heap hp0]; rfl
  have hba : b - a = F.length := by omega
  have haL : a ≤ b := by omega
  have ha1 : ¬ 16384 = a := by omega
  have hbi : (b : Int) ≤ 16384 := by omega
  have hlen : (F.take n).length = n := by rw [List.length_take]; omega
  have hmin2 : (F.take n).length = Nat.min (b - a) L := by rw [hlen, hba]; exact hn
  have hFat : ∀ j v, F[j]? = some v → cq[a + j]? = some v := by
    intro j v hj
    have hl := (List.getElem?_eq_some_iff.1 hj).1
    rw [← hqF, List.getElem?_drop, List.getElem?_take_of_lt (by omega)] at hj
    simpa using hj
  have hSF : Src w0.drew q a F := ⟨cq, 5, _, hq0, hFat⟩
  have hsrc := (hSF.take n).cell
  have hft : off + (F.take n).length ≤ cur.toList.length := by rw [hlen, Array.length_toList]; omega
  have hone : ∀ v ∈ F.take n, v.oneCell' = true := fun v hv => H0.out.uF.one v (List.mem_of_mem_take hv)
  have hg1 : w0.drew.heap[g]? = some (.cells cur.toList.toArray 5 (0, 0)) := by rw [Array.toArray_toList]; exact hg0
  obtain ⟨rr, hrr⟩ : ∃ rr, rr + 1 = a + n := ⟨a + n - 1, by omega⟩
  obtain ⟨x, hx⟩ : ∃ x : Int, cq[rr]? = some (.int .u8 x) := by
    have hl : n - 1 < F.length := by omega
    obtain ⟨x, hx⟩ := H0.out.uF F[n - 1] (List.getElem_mem _)
    refine ⟨x, ?_⟩
    have := hFat (n - 1) _ (List.getElem?_eq_getElem hl)
    rw [hx] at this
    have e : a + (n - 1) = rr := by omega
    rwa [e] at this
  have hr16 : (rr : Int) < 16384 := by omega
  have HP0 := Lib.hid hp0
  have HQ0 := Lib.hid hq0
  have HX := Lib.hid hx
  have HM2 := Lib.hid hmin2
  have HL := Lib.hid hlen
  have HS := Lib.hid hsrc
  have HF := Lib.hid hft
  have HO := Lib.hid hone
  have HG1 := Lib.hid hg1
  have HRR := Lib.hid hrr
  have HAB := Lib.hid hab
  clear hp0 hq0 hqs hqF hg0 hab hba hlen hmin2 hFat hSF hsrc hft hone hg1 hx hrr hn
  go_region_law (refine step_copy_kb rfl (.tmp 109) (.tmp 122) 22 22 rfl 5 Tryd.underlying22 Tryd.size5 _ _ _ _ _ _ rfl rfl g off cur.toList 5 HG1.out (F.take n) HM2.out (fun _ => ⟨rfl, _, rfl, HS.out⟩) HF.out HO.out ?_; rw [HL.out]; intro w3 HG hK3)
  all_goals (
    have hK3' : KB (fun k => k = g) w0 w3 := ((KB.refl _ w0).drewN 1).trans hK3 (fun _ _ e => e)
    have hp3 := hK3'.heap HP0.out (fun e => hgp e.symm)
    have hq3 := hK3'.heap HQ0.out (fun e => hgq e.symm)
    have x1 : w3.cell? ⟨p, 2, none⟩ = some (.int .i64 a) := by rw [Lib.cell_of_heap hp3]; rfl
    have y1 : w3.frozen? ⟨p, 2, none⟩ = false := Lib.frozen_of_heap hp3 2
    have HK3 := Lib.hid hK3'
    have HP3 := Lib.hid hp3
    have HQ3 := Lib.hid hq3
    have hin : (a : Int) + (n : Int) ≤ 16384 := by have := HAB.out; omega
    clear hK3 hK3' hp3 hq3
    go_wp2
    obtain ⟨w4, hw4⟩ : ∃ w4, w4 = w3.setCell ⟨p, 2, none⟩ (.int .i64 ((a : Int) + (n : Int))) := ⟨_, rfl⟩
    rw [← hw4]
    have hri : ((a : Int) + (n : Int)) = (rr : Int) + 1 := by have := HRR.out; omega
    have hp4 : w4.heap[p]? = some (.cells #[.slice (some ⟨q, 0, none⟩) 16384 16384, .iface 53 (.pointer (some ⟨d, 0, none⟩)), .int .i64 ((rr : Int) + 1), .int .i64 b, .nilIface, .int .i64 lb, .int .i64 lr] 89 (0, 0)) := by rw [hw4, hri, heap_setCell_same w3 p 2 _ 89 _ HP3.out]; rfl
    have hK4 : KB (fun k => k = p) w3 w4 := by rw [hw4]; exact (KB.refl _ w3).setCell p 2 _ rfl
    have hq4 := hK4.heap HQ3.out (fun e => H0.out.pq e.symm)
    have z0 : w4.cell? ⟨p, 0, none⟩ = some (.slice (some ⟨q, 0, none⟩) 16384 16384) := by rw [Lib.cell_of_heap hp4]; rfl
    have z2 : w4.cell? ⟨p, 2, none⟩ = some (.int .i64 ((rr : Int) + 1)) := by rw [Lib.cell_of_heap hp4]; rfl
    have z5 : w4.cell? ⟨p, 5, none⟩ = some (.int .i64 lb) := by rw [Lib.cell_of_heap hp4]; rfl
    have f5 : w4.frozen? ⟨p, 5, none⟩ = false := Lib.frozen_of_heap hp4 5
    have zq : w4.cell? ⟨q, rr, none⟩ = some (.int .u8 x) := by rw [Lib.cell_of_heap hq4]; exact HX.out
    have HP4 := Lib.hid hp4
    have HK4 := Lib.hid hK4
    clear hw4 hri hp4 hK4 hq4 x1 y1
    go_region
    all_goals (
      obtain ⟨w5, hw5⟩ : ∃ w5, w5 = (w4.setCell ⟨p, 5, none⟩ (.int .i64 (wrap64 x))).drew := ⟨_, rfl⟩
      rw [← hw5]
      have hp5 : w5.heap[p]? = some (.cells #[.slice (some ⟨q, 0, none⟩) 16384 16384, .iface 53 (.pointer (some ⟨d, 0, none⟩)), .int .i64 ((rr : Int) + 1), .int .i64 b, .nilIface, .int .i64 (wrap64 x), .int .i64 lr] 89 (0, 0)) := by
        rw [hw5]
        exact heap_setCell_same w4 p 5 _ 89 _ HP4.out
      have hK5 : KB (fun k => k = p) w3 w5 := by rw [hw5]; exact (HK4.out.setCell p 5 _ rfl).drewN 1
      have z6 : w5.cell? ⟨p, 6, none⟩ = some (.int .i64 lr) := by rw [Lib.cell_of_heap hp5]; rfl
      have f6 : w5.frozen? ⟨p, 6, none⟩ = false := Lib.frozen_of_heap hp5 6
      have HP5 := Lib.hid hp5
      have HK5 := Lib.hid hK5
      clear hw5 hp5 hK5 z0 z2 z5 f5 zq
      go_wp2
      go_ret2
      exact ReadOut.from HK0.out (buf_end H0.out hn0 hnL hnF hgp hgq hgd hgs HG.out HK3.out HRR.out HP5.out HK5.out)))
end Go.Proofs.Qxb6618767aDoor
