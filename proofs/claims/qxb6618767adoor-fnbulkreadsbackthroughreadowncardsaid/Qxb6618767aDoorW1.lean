import Derived.Test.Qxb6618767aDoorW
namespace Go.Proofs.Qxb6618767aDoor
open Go.RowKit

/-- What a write that grew leaves: the row is a new one, at the old heap's end. -/
def WroteNew (w : World) (b : Nat) (V : List Value) (n : Nat) (e : Ending) (w' : World) : Prop :=
  e = .returned (.tuple #[.int .i64 n, .nilIface]) ∧ (∃ cap cur, BufRow w' b w.heap.size V cap cur 0) ∧ KB (fun k => k = b) w w'

set_option maxHeartbeats 1000000 in
set_option maxRecDepth 100000 in
/-- Write where the slice has no room, growing being given by its contract. -/
theorem write_grow (b l cap n c : Nat) (ao : Option Addr) (lr : Int) (U cs : List Value) (a : Addr) (w : World)
    (hbk : w.heap[b]? = some (.cells #[.slice ao l cap, .int .i64 0, .int .i8 lr] 40 (0, 0))) (hl : U.length = l) (hlc : l ≤ cap) (hcm : cap ≤ maxLen) (hn : cs.length = n) (hroom : cap - l < n)
    (hgrow : ∀ w1, KB (fun k => k = b) w w1 → w1.heap.size = w.heap.size → w1.heap[b]? = some (.cells #[.slice ao l cap, .int .i64 0, .int .i8 0] 40 (0, 0)) → Calls Tryd.prog 80 #[.pointer (some ⟨b, 0, none⟩), .int .i64 n] w1 fun e w' => GrowOut w1 b l n 0 U e w')
    (hab : a.block ≠ b) (hsrc : ∀ j v, cs[j]? = some v → w.cell? (a.add j) = some v) (h1c : ∀ v ∈ cs, v.oneCell' = true) :
    Calls Tryd.prog 76 #[.pointer (some ⟨b, 0, none⟩), .slice (some a) n c] w fun e w' => WroteNew w b (U ++ cs) n e w' := by
  have c2 : w.cell? ⟨b, 2, none⟩ = some (.int .i8 lr) := by rw [Lib.cell_of_heap hbk]; rfl
  have f2 : w.frozen? ⟨b, 2, none⟩ = false := Lib.frozen_of_heap hbk 2
  have hbw : b < w.heap.size := Lib.lt_of_heap hbk
  have Hl := Lib.hid hl
  have Hn := Lib.hid hn
  clear hl hn
  go_enter Tryd.func76, Tryd.ntmps76
  go_wp2_with fail
  obtain ⟨w1, hw1⟩ : ∃ w1, w1 = w.setCell ⟨b, 2, none⟩ (.int .i8 0) := ⟨_, rfl⟩
  rw [← hw1]
  have hbk1 : w1.heap[b]? = some (.cells #[.slice ao l cap, .int .i64 0, .int .i8 0] 40 (0, 0)) := by rw [hw1, heap_setCell_same w b 2 _ 40 _ hbk]; rfl
  have hK1 : KB (fun k => k = b) w w1 := by rw [hw1]; exact (KB.refl _ _).setCell b 2 _ rfl
  have hs1 : w1.heap.size = w.heap.size := by rw [hw1]; simp
  have hsrc1 : ∀ j v, cs[j]? = some v → w1.cell? (a.add j) = some v := fun j v hj => by
    rw [hw1]
    exact (Lib.grownBy_setCell w b 2 _).cell (hsrc j v hj) (by rw [Lib.block_add]; exact fun e => hab (Option.some.inj e))
  have c0 : w1.cell? ⟨b, 0, none⟩ = some (.slice ao l cap) := by rw [Lib.cell_of_heap hbk1]; rfl
  have CG := hgrow w1 hK1 hs1 hbk1
  have Hs1 := Lib.hid hs1
  clear hw1 c2 f2 hsrc hbk hgrow hs1
  refine (tryGrow_none b _ l cap n w1 c0 hlc hcm hroom).mono ?_
  rintro e w2 ⟨rfl, hw2⟩
  subst hw2
  go_wp2_with fail
  refine CG.mono ?_
  rintro e w3 ⟨rfl, cap2, cells, hbk3, hg3, hcs3, htk3, hc3, hm3, hK3⟩
  rw [Hs1.out] at hbk3 hg3
  have hsrc3 : ∀ j v, cs[j]? = some v → w3.cell? (a.add j) = some v := fun j v hj => by
    have h0 := hsrc1 j v hj
    have hlt := World.block_lt_of_cell? _ _ h0
    rw [← h0]
    exact World.cell?_of_block (hK3.block _ hlt (by rw [Lib.block_add]; exact hab))
  have d0 : w3.cell? ⟨b, 0, none⟩ = some (.slice (some ⟨w.heap.size, 0, none⟩) (l + n) cap2) := by rw [Lib.cell_of_heap hbk3]; rfl
  have Hg3 := Lib.hid hg3
  have Hcs := Lib.hid hcs3
  have hm3' := hm3
  unfold maxLen at hm3'
  have hgb : w.heap.size ≠ b := by omega
  clear hsrc1 c0 CG hg3 hcs3 hbk1
  go_wp2_with ((with_reducible refine wpList_copy_kb ?_ (.tmp 29) (.tmp 30) 22 22 ?_ 5 Tryd.underlying22 Tryd.size5 w.heap.size l n (cap2 - l) a n c ?_ ?_ cells 5 Hg3.out cs ?_ hsrc3 ?_ h1c ?_); rfl; rfl; rfl; rfl; (rw [Hn.out]; exact (Nat.min_self _).symm); (have := Hn.out; have := Hcs.out; omega))
  intro w4 HG4 hK4
  rw [Hn.out]
  have hbk4 := hK4.heap hbk3 (fun e => hgb e.symm)
  have hK5 : KB (fun k => k = b) w w4 := (hK1.trans hK3 (fun _ _ e => e)).trans hK4 (fun i hi e => by omega)
  clear hK3 hK4 hK1 hbk3 d0 hsrc3
  go_wp2
  go_ret2
  refine ⟨rfl, ⟨cap2, _, ⟨?_, HG4.out, ?_, ?_, hm3, ?_, hgb⟩⟩, hK5⟩
  · rw [List.length_append, Hn.out, Hl.out]; exact hbk4
  · have := length_splice cells.toList l cs (by have := Hn.out; have := Hcs.out; simp; omega)
    have h2 := Hcs.out
    simpa [h2] using this
  · rw [List.length_append, Hn.out, Hl.out]; omega
  · rw [List.length_append, Hl.out]
    have := splice_take cells.toList cs l (by have := Hn.out; have := Hcs.out; simp; omega)
    rw [htk3] at this
    exact this
end Go.Proofs.Qxb6618767aDoor
