import Derived.Test.Qxb6618767aDoorI1
import Derived.Test.Qxb6618767aDoorN2
namespace Go.Proofs.Qxb6618767aDoor
open Go.RowKit

theorem bnew_any (sp : Option Addr) (n cap : Nat) (w : World) :
    Calls Tryd.prog 26 #[.slice sp n cap] w fun e w' => e = .returned (.pointer (some ⟨w.heap.size, 0, none⟩)) ∧ w' = w.alloc (.cells #[.slice sp n cap, .int .i64 0, .int .i64 (-1)] 78) := by
  go_enter Tryd.func26, Tryd.ntmps26
  go_wp2
  go_ret
  exact ⟨rfl, rfl⟩

def ResetOut (p : Nat) (sl rd : Value) (w w' : World) : Prop := w'.heap[p]? = some (.cells #[sl, rd, .int .i64 0, .int .i64 0, .nilIface, .int .i64 (-1), .int .i64 (-1)] 89 (0, 0)) ∧ KB (fun k => k = p) w w'

set_option maxHeartbeats 1000000 in
theorem reset_any (p : Nat) (sl rd : Value) (v0 v1 v2 v3 v4 v5 v6 : Value) (w : World) (hs : ∃ a n c, sl = .slice a n c) (hr : ∃ x, rd = .iface 53 x) (hp : w.heap[p]? = some (.cells #[v0, v1, v2, v3, v4, v5, v6] 89 (0, 0))) :
    Calls Tryd.prog 41 #[.pointer (some ⟨p, 0, none⟩), sl, rd] w fun e w' => (∃ v, e = .returned v) ∧ ResetOut p sl rd w w' := by
  obtain ⟨a, n, c, rfl⟩ := hs
  obtain ⟨x, rfl⟩ := hr
  have c0 : w.cell? ⟨p, 0, none⟩ = some v0 := by rw [Lib.cell_of_heap hp]; rfl
  have c1 : w.cell? ⟨p, 1, none⟩ = some v1 := by rw [Lib.cell_of_heap hp]; rfl
  have c2 : w.cell? ⟨p, 2, none⟩ = some v2 := by rw [Lib.cell_of_heap hp]; rfl
  have c3 : w.cell? ⟨p, 3, none⟩ = some v3 := by rw [Lib.cell_of_heap hp]; rfl
  have c4 : w.cell? ⟨p, 4, none⟩ = some v4 := by rw [Lib.cell_of_heap hp]; rfl
  have c5 : w.cell? ⟨p, 5, none⟩ = some v5 := by rw [Lib.cell_of_heap hp]; rfl
  have c6 : w.cell? ⟨p, 6, none⟩ = some v6 := by rw [Lib.cell_of_heap hp]; rfl
  have f0 : w.frozen? ⟨p, 0, none⟩ = false := Lib.frozen_of_heap hp 0
  have f1 : w.frozen? ⟨p, 1, none⟩ = false := Lib.frozen_of_heap hp 1
  have f2 : w.frozen? ⟨p, 2, none⟩ = false := Lib.frozen_of_heap hp 2
  have f3 : w.frozen? ⟨p, 3, none⟩ = false := Lib.frozen_of_heap hp 3
  have f4 : w.frozen? ⟨p, 4, none⟩ = false := Lib.frozen_of_heap hp 4
  have f5 : w.frozen? ⟨p, 5, none⟩ = false := Lib.frozen_of_heap hp 5
  have f6 : w.frozen? ⟨p, 6, none⟩ = false := Lib.frozen_of_heap hp 6
  have HP := Lib.hid hp
  clear hp
  go_enter Tryd.func41, Tryd.ntmps41
  go_wp2
  go_end0
  refine ⟨⟨_, rfl⟩, ?_, ((((((((KB.refl (fun k => k = p) w).setCell p 0 _ rfl).setCell p 1 _ rfl).setCell p 2 _ rfl).setCell p 3 _ rfl).setCell p 4 _ rfl).setCell p 5 _ rfl).setCell p 6 _ rfl)⟩
  have s0 := heap_setCell_same w p 0 _ 89 (.slice a n c) HP.out
  have s1 := heap_setCell_same _ p 1 _ 89 (.iface 53 x) s0
  have s2 := heap_setCell_same _ p 2 _ 89 (.int .i64 0) s1
  have s3 := heap_setCell_same _ p 3 _ 89 (.int .i64 0) s2
  have s4 := heap_setCell_same _ p 4 _ 89 .nilIface s3
  have s5 := heap_setCell_same _ p 5 _ 89 (.int .i64 (-1)) s4
  have s6 := heap_setCell_same _ p 6 _ 89 (.int .i64 (-1)) s5
  exact s6

def NrOut (w : World) (d : Nat) (e : Ending) (w' : World) : Prop :=
  ∃ p q cur, e = .returned (.pointer (some ⟨p, 0, none⟩)) ∧ w.heap.size ≤ p ∧ w.heap.size ≤ q ∧ p ≠ q ∧ w'.heap[p]? = some (.cells #[.slice (some ⟨q, 0, none⟩) 16384 16384, .iface 53 (.pointer (some ⟨d, 0, none⟩)), .int .i64 0, .int .i64 0, .nilIface, .int .i64 (-1), .int .i64 (-1)] 89 (0, 0)) ∧
    w'.heap[q]? = some (.cells cur 5 (0, 0)) ∧ cur.size = 16384 ∧ KB (fun _ => False) w w'

theorem assertReader (x : Value) (W : World) : Sem.run Tryd.prog (Instr.typeAssert (.iface 53 x) 70 71 true) W = .ok (.tuple #[.pointer none, .bool false]) W := by kernel_rfl

set_option maxHeartbeats 1000000 in
set_option maxRecDepth 100000 in
theorem nrs_any (d : Nat) (w : World) :
    Calls Tryd.prog 36 #[.iface 53 (.pointer (some ⟨d, 0, none⟩)), .int .i64 16384] w fun e w' => NrOut w d e w' := by
  obtain ⟨i0, hi, hz0, hz1, hz2⟩ := info_parts Tryd.info5'
  have hta : ∀ (x : Value) (W : World), Sem.run Tryd.prog (Instr.typeAssert (.iface 53 x) 70 71 true) W = .ok (.tuple #[.pointer none, .bool false]) W := assertReader
  go_enter Tryd.func36, Tryd.ntmps36
  have hmax : max (16384 : Int) 16 = 16384 := by decide
  go_wp2_with (at_make; refine wpList_make_full _ rfl _ _ 22 rfl (w.heap.size + 1) 5 i0 (.int .u8 0) 1 Tryd.underlying22 hi hz0 hz1 .i64 .i64 _ _ 16384 rfl rfl rfl rfl (by rw [hz2]; omega) (by unfold maxLen; omega) (by simp) ?_)
  intro w1 hown hgrow
  generalize (madeCells (Value.int .u8 0).cells (16384 * 1)).toList = mc at hown
  rcases hown.2 with ⟨hv, _⟩ | ⟨g, cap', cur, hv, hbg, hg, hnc, hcm, hcs, htake⟩
  · cases hv
  · obtain ⟨wa, hwa⟩ : ∃ wa, wa = w.alloc (.cells #[.slice none 0 0, .nilIface, .int .i64 0, .int .i64 0, .nilIface, .int .i64 0, .int .i64 0] 89) := ⟨_, rfl⟩
    have hKa : KB (fun _ => False) w wa := by rw [hwa]; exact (KB.refl _ w).alloc _
    have hpa : wa.heap[w.heap.size]? = some (.cells #[.slice none 0 0, .nilIface, .int .i64 0, .int .i64 0, .nilIface, .int .i64 0, .int .i64 0] 89 (0, 0)) := by rw [hwa]; exact heap_alloc_new _ _
    cases hv
    rw [← hwa] at hgrow
    have hKg : KB (fun _ => False) wa w1 := ⟨hgrow.os, hgrow.tape, hgrow.output, hgrow.size, fun k hk _ => hgrow.block k hk (fun e => by cases e)⟩
    have hp1 := hKg.heap hpa id
    have HP1 := Lib.hid hp1
    have HG := Lib.hid hg
    have HC := Lib.hid hcs
    have HK := Lib.hid (hKa.trans hKg (fun _ _ e => e))
    clear hown hg hcs htake hgrow hKg hKa hpa hp1 hwa
    go_wp2_with (go_at_call 41; refine (reset_any w.heap.size _ _ _ _ _ _ _ _ _ w1 ⟨_, _, _, rfl⟩ ⟨_, rfl⟩ HP1.out).mono ?_; rintro e w2 ⟨⟨v2, rfl⟩, hp2, hK2⟩; have HP2 := Lib.hid hp2; have HK2 := Lib.hid hK2; clear hp2 hK2)
    go_wp2
    go_ret
    refine ⟨w.heap.size, w.heap.size + 1, cur, rfl, Nat.le_refl _, by omega, by omega, HP2.out, HK2.out.heap HG.out (by omega), by simpa using HC.out, HK.out.trans HK2.out (fun i hi e => by omega)⟩
end Go.Proofs.Qxb6618767aDoor
