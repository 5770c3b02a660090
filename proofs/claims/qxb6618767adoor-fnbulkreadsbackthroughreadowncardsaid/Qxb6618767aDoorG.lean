import Derived.Test.Qxb6618767aDoorK
import Derived.BigCall
import Derived.BigGuard
import Derived.Lib.Walk
import Derived.Lib.Hide
import Derived.Lib.BufferWrite
import Derived.Lib.BufferKept
namespace Go.Proofs.Qxb6618767aDoor
open Go.RowKit

/-- What growing leaves: a new row at the old heap's end, the old bytes ahead in it; nothing else has turned but the buffer's own block. -/
def GrowOut (w : World) (b l n : Nat) (lr : Int) (old : List Value) (e : Ending) (w' : World) : Prop :=
  e = .returned (.int .i64 l) ∧ ∃ cap2 cells, w'.heap[b]? = some (.cells #[.slice (some ⟨w.heap.size, 0, none⟩) (l + n) cap2, .int .i64 0, .int .i8 lr] 40 (0, 0)) ∧ w'.heap[w.heap.size]? = some (.cells cells 5 (0, 0)) ∧
    cells.size = cap2 ∧ cells.toList.take l = old ∧ l + n ≤ cap2 ∧ cap2 ≤ maxLen ∧ KB (fun k => k = b) w w'

theorem grow_end {w w0 w2 : World} {b l n cap2 : Nat} {lr : Int} {old : List Value} {cells : Array Value} {v : Value} (hbk : w2.heap[b]? = some (.cells #[v, .int .i64 0, .int .i8 lr] 40 (0, 0)))
    (hsz : w0.heap.size = w.heap.size) (hb : b < w.heap.size) (hK : KB (fun k => k = b) w w0) (hN : w2.heap[w0.heap.size]? = some (.cells cells 5 (0, 0))) (hcs : cells.size = cap2) (htk : cells.toList.take l = old) (hc : l + n ≤ cap2) (hm : cap2 ≤ maxLen)
    (hbel : Below w0.heap.size w0 w2) :
    GrowOut w b l n lr old (.returned (.int .i64 l)) (((w2.setCell ⟨b, 0, none⟩ (.slice (some ⟨w0.heap.size, 0, none⟩) l cap2)).setCell ⟨b, 1, none⟩ (.int .i64 0)).setCell ⟨b, 0, none⟩ (.slice (some ⟨w0.heap.size, 0, none⟩) (l + n) cap2)) := by
  have h1 := heap_setCell_same w2 b 0 _ 40 (.slice (some ⟨w0.heap.size, 0, none⟩) l cap2) hbk
  have h2 := heap_setCell_same _ b 1 _ 40 (.int .i64 0) h1
  have h3 := heap_setCell_same _ b 0 _ 40 (.slice (some ⟨w0.heap.size, 0, none⟩) (l + n) cap2) h2
  refine ⟨rfl, cap2, cells, ?_, ?_, hcs, htk, hc, hm, ?_⟩
  · rw [h3, hsz]; rfl
  · rw [heap_setCell_other _ _ _ _ (by show w.heap.size ≠ b; omega), heap_setCell_other _ _ _ _ (by show w.heap.size ≠ b; omega), heap_setCell_other _ _ _ _ (by show w.heap.size ≠ b; omega), ← hsz]
    exact hN
  · exact (((hK.trans (T := fun _ => False) (KB.of_below hbel) (fun _ _ h => h.elim)).setCell b 0 _ rfl).setCell b 1 _ rfl).setCell b 0 _ rfl

set_option maxHeartbeats 3000000 in
set_option maxRecDepth 100000 in
theorem grow_row (b g l cap n : Nat) (lr : Int) (cur : Array Value) (w : World)
    (hbk : w.heap[b]? = some (.cells #[.slice (some ⟨g, 0, none⟩) l cap, .int .i64 0, .int .i8 lr] 40 (0, 0)))
    (hg : w.heap[g]? = some (.cells cur 5 (0, 0))) (hlc : l ≤ cap) (hcm : cap ≤ maxLen) (hcs : cur.size = cap) (hgb : g ≠ b)
    (h1 : ∀ v ∈ cur.toList.take l, v.oneCell' = true) (hl0 : ¬ l = 0) (hn : 1 ≤ n) (hroom : cap - l < n) (hlim : l + n ≤ 1073741824) :
    Calls Tryd.prog 80 #[.pointer (some ⟨b, 0, none⟩), .int .i64 n] w fun e w' => GrowOut w b l n lr (cur.toList.take l) e w' := by
  have htl : (cur.toList.take l).length = l := by simp; omega
  have hIs : Lib.IsBuffer 40 5 0 b (cur.toList.take l) w := ⟨Nat.zero_le _, _, _, hbk, ⟨by rw [Nat.mul_one], .inr ⟨g, cap, cur, by rw [htl], Nat.zero_le _, hg, by omega, hcm, by omega, by rw [htl, Nat.mul_one]⟩⟩, by simp [Value.ownBlock]; exact hgb⟩
  have CL := buf_Len 0 b (cur.toList.take l) w hIs
  rw [htl] at CL
  have hnil : ∀ W, (binOp .eql 22 (.slice (some ⟨g, 0, none⟩) l cap) (.slice none 0 0)).run Tryd.prog W = .ok (.bool false) W := fun W => Lib.run_eql_slice_some_nil W _ _ _ Tryd.underlying22
  obtain ⟨old, hold⟩ : ∃ old, old = cur.toList.take l := ⟨_, rfl⟩
  rw [← hold]
  have Hold := Lib.hid hold
  clear hold htl hIs
  go_enter Tryd.func80, Tryd.ntmps80
  go_wp2_with fail
  refine CL.mono ?_
  rintro e W0 ⟨rfl, k, hW0⟩
  have hbk0 : W0.heap[b]? = some (.cells #[.slice (some ⟨g, 0, none⟩) l cap, .int .i64 0, .int .i8 lr] 40 (0, 0)) := by rw [hW0]; exact hbk
  have hg0 : W0.heap[g]? = some (.cells cur 5 (0, 0)) := by rw [hW0]; exact hg
  have hK0 : KB (fun k => k = b) w W0 := by rw [hW0]; exact (KB.refl _ _).drewN k
  have hs0 : W0.heap.size = w.heap.size := by rw [hW0]; rfl
  have Hs0 := Lib.hid hs0
  have c0 : W0.cell? ⟨b, 0, none⟩ = some (.slice (some ⟨g, 0, none⟩) l cap) := by rw [Lib.cell_of_heap hbk0]; rfl
  have c1 : W0.cell? ⟨b, 1, none⟩ = some (.int .i64 0) := by rw [Lib.cell_of_heap hbk0]; rfl
  have f0 : W0.frozen? ⟨b, 0, none⟩ = false := Lib.frozen_of_heap hbk0 0
  have f1 : W0.frozen? ⟨b, 1, none⟩ = false := Lib.frozen_of_heap hbk0 1
  have hbw : b < w.heap.size := Lib.lt_of_heap hbk
  have hbW := Lib.lt_of_heap hbk0
  clear hW0 CL hs0 hbk hg
  have hcm' := hcm
  unfold maxLen at hcm'
  go_wp2_with fail
  refine (tryGrow_none b _ l cap n _ c0 hlc hcm hroom).mono ?_
  rintro e w' ⟨rfl, rfl⟩
  have hc2 : cap ≤ 140737488355328 := by omega
  have hwn : IntKind.i64.wrap (n : Int) = n := by rw [IntKind.wrap_i64]; omega
  have hlim2 : l + n ≤ 140737488355328 := by omega
  go_wp2_with fail
  have mixed : Tryd.prog.follows Departure.mixedOrders = true := by kernel_rfl
  go_region_with_o (
      go_at_call 82
      refine (growSlice_row g l cap n cur _ ?_ hcs hlc hn hlim2 hc2 h1).mono ?_
      exact hg0
      rintro e w2 ⟨cap2, cells, rfl, hN, hcsz, htk, hcap2, hcm2, hbel⟩
      have hbk2 : w2.heap[b]? = some (.cells #[.slice (some ⟨g, 0, none⟩) l cap, .int .i64 0, .int .i8 lr] 40 (0, 0)) := (hbel.block b hbW).trans hbk0
      have d0 : w2.cell? ⟨b, 0, none⟩ = some (.slice (some ⟨g, 0, none⟩) l cap) := by rw [Lib.cell_of_heap hbk2]; rfl
      have d1 : w2.cell? ⟨b, 1, none⟩ = some (.int .i64 0) := by rw [Lib.cell_of_heap hbk2]; rfl
      have e0 : w2.frozen? ⟨b, 0, none⟩ = false := Lib.frozen_of_heap hbk2 0
      have e1 : w2.frozen? ⟨b, 1, none⟩ = false := Lib.frozen_of_heap hbk2 1)
  all_goals (
    go_wp2
    go_ret
    exact grow_end (w0 := w'.drew) hbk2 Hs0.out hbw (hK0.drewN 1) hN hcsz (htk.trans Hold.out.symm) hcap2 hcm2 hbel)
end Go.Proofs.Qxb6618767aDoor
