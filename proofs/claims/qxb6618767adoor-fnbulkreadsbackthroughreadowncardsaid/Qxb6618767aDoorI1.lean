import Derived.Test.Qxb6618767aDoorS
namespace Go.Proofs.Qxb6618767aDoor
open Go.RowKit

/-- A bytes.Reader at block d over D, which lies at s, o; i bytes have been read. -/
structure BRd (w : World) (d s o : Nat) (D : List Value) (i : Nat) : Prop where
  hd : ∃ (c : Nat) (pr : Int), D.length ≤ c ∧ w.heap[d]? = some (.cells #[.slice (some ⟨s, o, none⟩) D.length c, .int .i64 i, .int .i64 pr] 78 (0, 0))
  src : Src w s o D
  sd : s ≠ d
  hi : i ≤ D.length

/-- n bytes of the stream have come to the row g at off. -/
def Got (w : World) (g off : Nat) (cur : Array Value) (R : List Value) (n : Nat) (S : Nat → Prop) (e : Ending) (w' : World) : Prop :=
  e = .returned (.tuple #[.int .i64 n, .nilIface]) ∧ w'.heap[g]? = some (.cells (splice cur.toList off (R.take n)).toArray 5 (0, 0)) ∧ KB S w w'

theorem bread_end {w w1 w3 : World} {d s o i g off n : Nat} {D : List Value} {c : Nat} {cur : Array Value} (hn : i + n ≤ D.length) (h : BRd w d s o D i) (hc : D.length ≤ c) (hd1 : w1.heap[d]? = some (.cells #[.slice (some ⟨s, o, none⟩) D.length c, .int .i64 i, .int .i64 (-1)] 78 (0, 0))) (hK1 : KB (fun k => k = d) w w1)
    (hgd : g ≠ d) (hgs : g ≠ s) (HG : w3.heap[g]? = some (.cells (splice cur.toList off ((D.drop i).take n)).toArray 5 (0, 0))) (hK3 : KB (fun k => k = g) w1 w3) (m : Int) (hm : m = (i + n : Nat)) :
    BRd (w3.setCell ⟨d, 1, none⟩ (.int .i64 m)) d s o D (i + n) ∧ Got w g off cur (D.drop i) n (fun k => k = d ∨ k = g) (.returned (.tuple #[.int .i64 n, .nilIface])) (w3.setCell ⟨d, 1, none⟩ (.int .i64 m)) := by
  subst hm
  have hd3 := hK3.heap hd1 (fun e => hgd e.symm)
  have hK : KB (fun k => k = d ∨ k = g) w (w3.setCell ⟨d, 1, none⟩ (.int .i64 (i + n : Nat))) := (((hK1.mono (fun _ e => .inl e)).trans hK3 (fun _ _ e => .inr e))).setCell d 1 _ (.inl rfl)
  refine ⟨⟨⟨c, -1, hc, ?_⟩, h.src.kb hK (fun e => e.elim h.sd (fun e => hgs e.symm)), h.sd, hn⟩, rfl, ?_, hK⟩
  · rw [heap_setCell_same w3 d 1 _ 78 _ hd3]; rfl
  · rw [heap_setCell_other _ _ _ _ hgd]; exact HG

set_option maxHeartbeats 1000000 in
set_option maxRecDepth 100000 in
theorem bread_any (d s o i g off L cL n : Nat) (D : List Value) (cur : Array Value) (w : World) (h : BRd w d s o D i) (hi : i < D.length) (hD : D.length ≤ 1073741824) (hn : n = Nat.min (D.length - i) L) (hgd : g ≠ d) (hgs : g ≠ s)
    (hg : w.heap[g]? = some (.cells cur 5 (0, 0))) (hfit : off + L ≤ cur.size) (h1 : ∀ v ∈ D, v.oneCell' = true) :
    Calls Tryd.prog 86 #[.pointer (some ⟨d, 0, none⟩), .slice (some ⟨g, off, none⟩) L cL] w fun e w' => BRd w' d s o D (i + n) ∧ Got w g off cur (D.drop i) n (fun k => k = d ∨ k = g) e w' := by
  obtain ⟨c, pr, hc, hd⟩ := h.hd
  have c0 : w.cell? ⟨d, 0, none⟩ = some (.slice (some ⟨s, o, none⟩) D.length c) := by rw [Lib.cell_of_heap hd]; rfl
  have c1 : w.cell? ⟨d, 1, none⟩ = some (.int .i64 i) := by rw [Lib.cell_of_heap hd]; rfl
  have c2 : w.cell? ⟨d, 2, none⟩ = some (.int .i64 pr) := by rw [Lib.cell_of_heap hd]; rfl
  have f2 : w.frozen? ⟨d, 2, none⟩ = false := Lib.frozen_of_heap hd 2
  have hil : (i : Int) < (D.length : Int) := by omega
  have hnc : ¬ c = i := by omega
  have hiD : i ≤ D.length := by omega
  have H := Lib.hid h
  have HN := Lib.hid hn
  have HG0 := Lib.hid hg
  have HD := Lib.hid hd
  clear h hn hg hd
  go_enter Tryd.func86, Tryd.ntmps86
  go_wp2
  go_quiet (fail)
  obtain ⟨w0, hw0⟩ : ∃ w0, w0 = w.drewN nq := ⟨_, rfl⟩
  rw [← hw0]
  have k2 : w0.cell? ⟨d, 2, none⟩ = some (.int .i64 pr) := by rw [hw0, World.cell?_drewN]; exact c2
  have hd0 := HD.out
  rw [← drewN_heap w nq, ← hw0] at hd0
  have j2 : w0.frozen? ⟨d, 2, none⟩ = false := Lib.frozen_of_heap hd0 2
  have HD0 := Lib.hid hd0
  clear hd0
  have HW0 := Lib.hid hw0
  clear hw0
  go_wp2
  obtain ⟨w1, hw1⟩ : ∃ w1, w1 = w0.setCell ⟨d, 2, none⟩ (.int .i64 (-1)) := ⟨_, rfl⟩
  rw [← hw1]
  have hd1 : w1.heap[d]? = some (.cells #[.slice (some ⟨s, o, none⟩) D.length c, .int .i64 i, .int .i64 (-1)] 78 (0, 0)) := by rw [hw1, heap_setCell_same w0 d 2 _ 78 _ HD0.out]; rfl
  have hK1 : KB (fun k => k = d) w w1 := by rw [hw1, HW0.out]; exact ((KB.refl _ w).drewN nq).setCell d 2 _ rfl
  have e0 : w1.cell? ⟨d, 0, none⟩ = some (.slice (some ⟨s, o, none⟩) D.length c) := by rw [Lib.cell_of_heap hd1]; rfl
  have e1 : w1.cell? ⟨d, 1, none⟩ = some (.int .i64 i) := by rw [Lib.cell_of_heap hd1]; rfl
  have hg1 : w1.drew.heap[g]? = some (.cells cur.toList.toArray 5 (0, 0)) := by rw [Array.toArray_toList]; exact hK1.heap HG0.out hgd
  have hmin := HN.out
  have hnD : n ≤ D.length - i := by rw [hmin]; exact Nat.min_le_left _ _
  have hnL : n ≤ L := by rw [hmin]; exact Nat.min_le_right _ _
  have hlen : ((D.drop i).take n).length = n := by rw [List.length_take, List.length_drop]; omega
  have hmin2 : ((D.drop i).take n).length = Nat.min (D.length - i) L := by rw [hlen]; exact hmin
  have hsrc : ∀ j v, ((D.drop i).take n)[j]? = some v → w1.drew.cell? ((⟨s, o + i, none⟩ : Addr).add j) = some v := ((((H.out.src.kb hK1 H.out.sd).drewN 1).drop i).take n).cell
  have hft : off + ((D.drop i).take n).length ≤ cur.toList.length := by rw [hlen, Array.length_toList]; omega
  have hone : ∀ v ∈ (D.drop i).take n, v.oneCell' = true := fun v hv => h1 v (List.mem_of_mem_drop (List.mem_of_mem_take hv))
  have HD1 := Lib.hid hd1
  have HK1 := Lib.hid hK1
  have HM2 := Lib.hid hmin2
  have HL := Lib.hid hlen
  have HS := Lib.hid hsrc
  have HF := Lib.hid hft
  have HO := Lib.hid hone
  have HG1 := Lib.hid hg1
  have HnD := Lib.hid hnD
  clear hw1 hd1 hK1 hmin hmin2 hlen hsrc hft hone hg1 k2 j2 c0 c1 c2 f2 hnD hnL hfit h1
  go_region_law (refine step_copy_kb rfl (.tmp 20) (.tmp 29) 22 22 rfl 5 Tryd.underlying22 Tryd.size5 _ _ _ _ _ _ rfl rfl g off cur.toList 5 HG1.out ((D.drop i).take n) HM2.out (fun _ => ⟨rfl, _, rfl, HS.out⟩) HF.out HO.out ?_; rw [HL.out]; intro w3 HG hK3)
  all_goals (
    have hK3' : KB (fun k => k = g) w1 w3 := ((KB.refl _ w1).drewN 1).trans hK3 (fun _ _ e => e)
    have hd3 := hK3'.heap HD1.out (fun e => hgd e.symm)
    have x1 : w3.cell? ⟨d, 1, none⟩ = some (.int .i64 i) := by rw [Lib.cell_of_heap hd3]; rfl
    have y1 : w3.frozen? ⟨d, 1, none⟩ = false := Lib.frozen_of_heap hd3 1
    have HK3 := Lib.hid hK3'
    have hin : (i : Int) + (n : Int) ≤ 1073741824 := by have := HnD.out; omega
    clear hK3 hK3' hd3
    go_wp2
    all_goals (
      go_ret2
      have hnD := HnD.out
      exact bread_end (by omega) H.out hc HD1.out HK1.out hgd hgs HG.out HK3.out _ (by rw [Int.natCast_add])))
end Go.Proofs.Qxb6618767aDoor
