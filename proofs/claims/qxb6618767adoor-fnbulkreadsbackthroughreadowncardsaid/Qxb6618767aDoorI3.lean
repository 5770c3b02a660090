import Derived.Test.Qxb6618767aDoorI2
namespace Go.Proofs.Qxb6618767aDoor
open Go.RowKit

theorem readErr_nil (p : Nat) (w : World) (c4 : w.cell? ⟨p, 4, none⟩ = some .nilIface) (f4 : w.frozen? ⟨p, 4, none⟩ = false) :
    Calls Tryd.prog 90 #[.pointer (some ⟨p, 0, none⟩)] w fun e w' => e = .returned .nilIface ∧ w' = w.setCell ⟨p, 4, none⟩ .nilIface := by
  go_enter Tryd.func90, Tryd.ntmps90
  go_wp2
  go_ret
  exact ⟨rfl, rfl⟩

theorem BRd.kb {S : Nat → Prop} {w w' : World} {d s o : Nat} {D : List Value} {i : Nat} (h : BRd w d s o D i) (hK : KB S w w') (hd : ¬ S d) (hs : ¬ S s) : BRd w' d s o D i := by
  obtain ⟨c, pr, hc, h1⟩ := h.hd
  exact ⟨⟨c, pr, hc, hK.heap h1 hd⟩, h.src.kb hK hs, h.sd, h.hi⟩

theorem splice_get (L cs : List Value) (off j : Nat) (v : Value) (h : off + cs.length ≤ L.length) (hj : cs[j]? = some v) : (splice L off cs)[off + j]? = some v := by
  have hl := (List.getElem?_eq_some_iff.1 hj).1
  have ht := splice_take L cs off h
  have e : ((splice L off cs).take (off + cs.length))[off + j]? = some v := by
    rw [ht, List.getElem?_append_right (by rw [List.length_take]; omega)]
    have : off + j - (L.take off).length = j := by rw [List.length_take]; omega
    rw [this]; exact hj
  rwa [List.getElem?_take_of_lt (by omega)] at e

/-- The reader where its row is empty and n bytes have gone past it. -/
theorem direct_end {w w2 w5 : World} {p q d s o g off L : Nat} {D : List Value} {i a n : Nat} {cur : Array Value} {x y : Int} (H : RS w p q d s o D i a a []) (hn0 : 0 < n) (hnL : n ≤ L) (hnD : n ≤ D.length - i) (hgp : g ≠ p) (hgq : g ≠ q)
    (hB : BRd w2 d s o D (i + n)) (HG : w2.heap[g]? = some (.cells (splice cur.toList off ((D.drop i).take n)).toArray 5 (0, 0))) (hK2 : KB (fun k => k = d ∨ k = g) w w2)
    (h5 : w5.heap[p]? = some (.cells #[.slice (some ⟨q, 0, none⟩) 16384 16384, .iface 53 (.pointer (some ⟨d, 0, none⟩)), .int .i64 a, .int .i64 a, .nilIface, .int .i64 x, .int .i64 y] 89 (0, 0))) (hK5 : KB (fun k => k = p) w2 w5) :
    ReadOut w p q d s o g off L D cur (D.drop i) (.returned (.tuple #[.int .i64 n, .nilIface])) w5 := by
  obtain ⟨cq, h1, h2, h3⟩ := H.hq
  have hq2 := hK2.heap h1 (fun e => e.elim H.qd (fun e => hgq e.symm))
  have hq5 := hK5.heap hq2 (fun e => H.pq e.symm)
  refine ⟨n, i + n, a, a, [], hn0, hnL, by rw [List.length_drop]; exact hnD, ?_, ⟨⟨x, y, h5⟩, ⟨cq, hq5, h2, h3⟩, H.ab, H.b_, hB.kb hK5 (fun e => H.pd e.symm) (fun e => H.ps e.symm), H.pq, H.pd, H.qd, H.ps, H.qs, H.uD, H.uF⟩, rfl, hK5.heap HG hgp, ?_⟩
  · rw [List.nil_append, List.drop_drop]
  · exact (hK2.mono (fun k e => (show RdS p q d g k from .inr (.inr e)))).trans hK5 (fun _ _ e => .inl e)

theorem methodRead (x : Value) (W : World) : Sem.run Tryd.prog (method 239 53 x "Read") W = .ok (86, x) W := by kernel_rfl

set_option maxHeartbeats 2000000 in
set_option maxRecDepth 100000 in
theorem read_direct (p q d s o g off L cL : Nat) (D : List Value) (i a : Nat) (cur : Array Value) (w : World) (h : RS w p q d s o D i a a []) (hi : i < D.length) (hD : D.length ≤ 1073741824) (hL : 16384 ≤ L) (hgp : g ≠ p) (hgq : g ≠ q) (hgd : g ≠ d) (hgs : g ≠ s)
    (hg : w.heap[g]? = some (.cells cur 5 (0, 0))) (hfit : off + L ≤ cur.size) :
    Calls Tryd.prog 87 #[.pointer (some ⟨p, 0, none⟩), .slice (some ⟨g, off, none⟩) L cL] w fun e w' => ReadOut w p q d s o g off L D cur (D.drop i) e w' := by
  obtain ⟨lb, lr, hp⟩ := h.hp
  have c0 : w.cell? ⟨p, 0, none⟩ = some (.slice (some ⟨q, 0, none⟩) 16384 16384) := by rw [Lib.cell_of_heap hp]; rfl
  have c2 : w.cell? ⟨p, 2, none⟩ = some (.int .i64 a) := by rw [Lib.cell_of_heap hp]; rfl
  have c3 : w.cell? ⟨p, 3, none⟩ = some (.int .i64 a) := by rw [Lib.cell_of_heap hp]; rfl
  have hlb : ((L : Int) == 0) = false := by rw [beq_eq_false_iff_ne]; omega
  have hL16 : (L : Int) ≥ 16384 := by omega
  obtain ⟨n, hn⟩ : ∃ n, n = Nat.min (D.length - i) L := ⟨_, rfl⟩
  have hnD : n ≤ D.length - i := by rw [hn]; exact Nat.min_le_left _ _
  have hnL : n ≤ L := by rw [hn]; exact Nat.min_le_right _ _
  have hn0 : 0 < n := by rw [hn]; exact Nat.lt_min.2 ⟨by omega, by omega⟩
  have H := Lib.hid h
  have HP := Lib.hid hp
  have HGW := Lib.hid hg
  have HN := Lib.hid hn
  have hm : ∀ (x : Value) (W : World), Sem.run Tryd.prog (method 239 53 x "Read") W = .ok (86, x) W := methodRead
  clear h hp hg hn
  go_enter Tryd.func87, Tryd.ntmps87
  go_wp2
  go_quiet (fail)
  obtain ⟨w0, hw0⟩ : ∃ w0, w0 = w.drewN nq := ⟨_, rfl⟩
  rw [← hw0]
  have H0 : Hid (RS w0 p q d s o D i a a []) := Lib.hid (by rw [hw0]; exact H.out.drewN nq)
  have HG0 : Hid (w0.heap[g]? = some (.cells cur 5 (0, 0))) := Lib.hid (by rw [hw0, drewN_heap]; exact HGW.out)
  have HK0 : Hid (KB (RdS p q d g) w w0) := Lib.hid (by rw [hw0]; exact (KB.refl _ w).drewN nq)
  have hp0 := HP.out
  rw [← drewN_heap w nq, ← hw0] at hp0
  have e0 : w0.cell? ⟨p, 0, none⟩ = some (.slice (some ⟨q, 0, none⟩) 16384 16384) := by rw [Lib.cell_of_heap hp0]; rfl
  have e1 : w0.cell? ⟨p, 1, none⟩ = some (.iface 53 (.pointer (some ⟨d, 0, none⟩))) := by rw [Lib.cell_of_heap hp0]; rfl
  have e4 : w0.cell? ⟨p, 4, none⟩ = some .nilIface := by rw [Lib.cell_of_heap hp0]; rfl
  have HP0 := Lib.hid hp0
  clear hw0 c0 c2 c3 hp0
  obtain ⟨nn, hnn⟩ : ∃ nn, n = nn + 1 := ⟨n - 1, by omega⟩
  have hnni : (nn : Int) < (L : Int) := by omega
  have hnn0 : (nn : Int) + 1 > 0 := by omega
  have hnn2 : (nn : Int) ≤ 1073741824 := by omega
  have HNN := Lib.hid hnn
  clear hnn
  go_wp2_with (first
    | (go_at_call 90; fail)
    | (go_at_call 86; refine (bread_any d s o i g off L cL n D cur _ H0.out.rd hi hD HN.out hgd hgs HG0.out hfit H0.out.uD.one).mono ?_; rintro e w2 ⟨hB2, rfl, hG2, hK2⟩; rw [HNN.out]; have hp2 := hK2.heap HP0.out (fun e => e.elim H0.out.pd (fun e => hgp e.symm)); have g4 : w2.cell? ⟨p, 4, none⟩ = some .nilIface := (by rw [Lib.cell_of_heap hp2]; rfl); have g5 : w2.cell? ⟨p, 5, none⟩ = some (.int .i64 lb) := (by rw [Lib.cell_of_heap hp2]; rfl); have g6 : w2.cell? ⟨p, 6, none⟩ = some (.int .i64 lr) := (by rw [Lib.cell_of_heap hp2]; rfl); have k4 : w2.frozen? ⟨p, 4, none⟩ = false := Lib.frozen_of_heap hp2 4; have k5 : w2.frozen? ⟨p, 5, none⟩ = false := Lib.frozen_of_heap hp2 5; have k6 : w2.frozen? ⟨p, 6, none⟩ = false := Lib.frozen_of_heap hp2 6; obtain ⟨x, gx⟩ : ∃ x : Int, w2.cell? ⟨g, off + nn, none⟩ = some (.int .u8 x) := (by
      have hl : i + nn < D.length := by have := HNN.out; omega
      obtain ⟨x, hx⟩ := H0.out.uD D[i + nn] (List.getElem_mem _)
      refine ⟨x, ?_⟩
      rw [Lib.cell_of_heap hG2, List.getElem?_toArray]
      refine splice_get _ _ _ _ _ (by have e5 : cur.toList.length = cur.size := Array.length_toList; rw [List.length_take, e5]; omega) ?_
      rw [List.getElem?_take_of_lt (by have := HNN.out; omega), List.getElem?_drop, List.getElem?_eq_getElem hl, hx]); have HB2 := Lib.hid hB2; have HG2 := Lib.hid hG2; have HK2 := Lib.hid hK2; have HP2 := Lib.hid hp2; clear hB2 hG2 hK2 hp2))
  obtain ⟨w3, hw3⟩ : ∃ w3, w3 = ((w2.setCell ⟨p, 4, none⟩ .nilIface).setCell ⟨p, 5, none⟩ (.int .i64 (wrap64 x))).setCell ⟨p, 6, none⟩ (.int .i64 (-1)) := ⟨_, rfl⟩
  rw [← hw3]
  have hp3 : w3.heap[p]? = some (.cells #[.slice (some ⟨q, 0, none⟩) 16384 16384, .iface 53 (.pointer (some ⟨d, 0, none⟩)), .int .i64 a, .int .i64 a, .nilIface, .int .i64 (wrap64 x), .int .i64 (-1)] 89 (0, 0)) := by
    rw [hw3]
    exact heap_setCell_same _ p 6 _ 89 _ (heap_setCell_same _ p 5 _ 89 _ (heap_setCell_same w2 p 4 _ 89 _ HP2.out))
  have hK3 : KB (fun k => k = p) w2 w3 := by rw [hw3]; exact (((KB.refl (fun k => k = p) w2).setCell p 4 _ rfl).setCell p 5 _ rfl).setCell p 6 _ rfl
  have z4 : w3.cell? ⟨p, 4, none⟩ = some .nilIface := by rw [Lib.cell_of_heap hp3]; rfl
  have y4 : w3.frozen? ⟨p, 4, none⟩ = false := Lib.frozen_of_heap hp3 4
  have HP3 := Lib.hid hp3
  have HK3 := Lib.hid hK3
  clear hw3 hp3 hK3
  go_at_call 90
  refine (readErr_nil p _ z4 y4).mono ?_
  rintro e w4 ⟨rfl, hw4⟩
  rw [hw4]
  clear hw4 w4
  go_wp2
  go_ret2
  refine ReadOut.from HK0.out ?_
  have e1 : ((nn : Int) + 1) = ((n : Nat) : Int) := by have := HNN.out; omega
  show ReadOut _ _ _ _ _ _ _ _ _ _ _ _ (.returned (.tuple #[.int .i64 ((nn : Int) + 1), .nilIface])) _
  rw [e1]
  refine direct_end H0.out hn0 hnL hnD hgp hgq HB2.out HG2.out HK2.out (x := wrap64 x) (y := -1) ?_ (HK3.out.setCell p 4 _ rfl)
  exact heap_setCell_same w3 p 4 _ 89 _ HP3.out
end Go.Proofs.Qxb6618767aDoor
