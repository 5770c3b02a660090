import Derived.Test.Qxb6618767aDoorD
namespace Go.Proofs.Qxb6618767aDoor
open Go.RowKit

def NwOut (w : World) (b : Nat) (e : Ending) (w' : World) : Prop :=
  ∃ p q cur, e = .returned (.pointer (some ⟨p, 0, none⟩)) ∧ w.heap.size ≤ p ∧ w.heap.size ≤ q ∧ p ≠ q ∧ w'.heap[p]? = some (.cells #[.nilIface, .slice (some ⟨q, 0, none⟩) 16384 16384, .int .i64 0, .iface 43 (.pointer (some ⟨b, 0, none⟩))] 68 (0, 0)) ∧
    w'.heap[q]? = some (.cells cur 5 (0, 0)) ∧ cur.size = 16384 ∧ KB (fun _ => False) w w'

theorem KB.alloc {S : Nat → Prop} {a w : World} (h : KB S a w) (o : Obj) : KB S a (w.alloc o) :=
  h.trans (S := S) (T := fun _ => False) (KB.of_below ((Below.refl _ w).alloc (Nat.le_refl _) o)) (fun _ _ e => e.elim)

theorem alloc_heap_old (w : World) (o o' : Obj) (k : Nat) (h : w.heap[k]? = some o') : (w.alloc o).heap[k]? = some o' :=
  (heap_alloc_old w o (Lib.lt_of_heap h)).trans h

theorem Tryd.info5' : (Tryd.prog.info? 5).map (fun i => (i.zero, i.size, i.bytes)) = some (some (.int .u8 0), 1, 1) := by kernel_rfl

theorem assertWriter (x : Value) (W : World) : Sem.run Tryd.prog (Instr.typeAssert (.iface 43 x) 60 47 true) W = .ok (.tuple #[.pointer none, .bool false]) W := by kernel_rfl

set_option maxHeartbeats 400000 in
set_option maxRecDepth 100000 in
theorem nws_any (b : Nat) (w : World) :
    Calls Tryd.prog 31 #[.iface 43 (.pointer (some ⟨b, 0, none⟩)), .int .i64 16384] w fun e w' => NwOut w b e w' := by
  obtain ⟨i0, hi, hz0, hz1, hz2⟩ := info_parts Tryd.info5'
  have hta : ∀ (x : Value) (W : World), Sem.run Tryd.prog (Instr.typeAssert (.iface 43 x) 60 47 true) W = .ok (.tuple #[.pointer none, .bool false]) W := assertWriter
  go_enter Tryd.func31, Tryd.ntmps31
  go_wp2_with (at_make; refine wpList_make_full _ rfl _ _ 22 rfl w.heap.size 5 i0 (.int .u8 0) 1 Tryd.underlying22 hi hz0 hz1 .i64 .i64 _ _ 16384 rfl rfl rfl rfl (by rw [hz2]; omega) (by unfold maxLen; omega) (Nat.le_refl _) ?_)
  intro w1 hown hgrow
  generalize (madeCells (Value.int .u8 0).cells (16384 * 1)).toList = mc at hown
  rcases hown.2 with ⟨hv, _⟩ | ⟨g, cap', cur, hv, hbg, hg, hnc, hcm, hcs, htake⟩
  · cases hv
  · cases hv
    have Hg := Lib.hid hg
    have Hc := Lib.hid hcs
    have HK : KB (fun _ => False) w w1 := ⟨hgrow.os, hgrow.tape, hgrow.output, hgrow.size, fun k hk _ => hgrow.block k hk (fun e => by cases e)⟩
    clear hown hg hcs htake hgrow
    go_wp2
    go_ret
    exact ⟨w1.heap.size, w.heap.size, cur, rfl, HK.size, Nat.le_refl _, fun e => by have := Lib.lt_of_heap Hg.out; omega, heap_alloc_new _ _, alloc_heap_old _ _ _ _ Hg.out, by simpa using Hc.out, HK.alloc _⟩
end Go.Proofs.Qxb6618767aDoor
