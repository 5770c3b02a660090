import Derived.Test.Qxb6618767aDoorN
namespace Go.Proofs.Qxb6618767aDoor
open Go.RowKit

/-- A resp.Writer at block z: its bufio.Writer at p (row q) over the Buffer at b, its digits' row dg. -/
def WrOut (w : World) (b : Nat) (e : Ending) (w' : World) : Prop :=
  ∃ z p q dg cur cd, e = .returned (.pointer (some ⟨z, 0, none⟩)) ∧ w.heap.size ≤ p ∧ w.heap.size ≤ q ∧ w.heap.size ≤ dg ∧ w.heap.size ≤ z ∧ p ≠ q ∧ dg ≠ p ∧ dg ≠ q ∧ z ≠ p ∧ z ≠ q ∧ z ≠ dg ∧
    w'.heap[z]? = some (.cells #[.pointer (some ⟨p, 0, none⟩), .slice (some ⟨dg, 0, none⟩) 0 20] 49 (0, 0)) ∧
    w'.heap[p]? = some (.cells #[.nilIface, .slice (some ⟨q, 0, none⟩) 16384 16384, .int .i64 0, .iface 43 (.pointer (some ⟨b, 0, none⟩))] 68 (0, 0)) ∧
    w'.heap[q]? = some (.cells cur 5 (0, 0)) ∧ cur.size = 16384 ∧ w'.heap[dg]? = some (.cells cd 5 (0, 0)) ∧ cd.size = 20 ∧ KB (fun _ => False) w w'

theorem wr_end1 {w w1 w2 : World} {b p : Nat} (HN : NwOut w.drew b (.returned (.pointer (some ⟨p, 0, none⟩))) w1) (H2 : (∃ cd : Array Value, w2.heap[w1.heap.size]? = some (.cells cd 5 (0, 0)) ∧ cd.size = 20) ∧ KB (fun _ => False) w1 w2) :
    WrOut w b (.returned (.pointer (some ⟨w2.heap.size, 0, none⟩))) (w2.alloc (.cells #[.pointer (some ⟨p, 0, none⟩), .slice (some ⟨w1.heap.size, 0, none⟩) 0 20] 49)) := by
  obtain ⟨p', q, cur, he, hp, hq, hpq, h1, h2, h3, h4⟩ := HN
  cases he
  obtain ⟨⟨cd, h5, h6⟩, hK⟩ := H2
  have l1 := Lib.lt_of_heap h1
  have l2 := Lib.lt_of_heap h2
  have l5 := Lib.lt_of_heap h5
  have s1 := h4.size
  have s2 := hK.size
  have e0 : w.drew.heap.size = w.heap.size := rfl
  rw [e0] at hp hq s1
  exact ⟨w2.heap.size, p, q, w1.heap.size, cur, cd, rfl, hp, hq, s1, by omega, hpq, by omega, by omega, by omega, by omega, by omega, heap_alloc_new _ _, alloc_heap_old _ _ _ _ (hK.heap h1 id), alloc_heap_old _ _ _ _ (hK.heap h2 id), h3, alloc_heap_old _ _ _ _ h5, h6, ((((KB.refl _ w).drewN 1).trans h4 (fun _ _ e => e)).trans hK (fun _ _ e => e)).alloc _⟩

theorem wr_end2 {w w1 w2 : World} {b p : Nat} (HN : NwOut w2 b (.returned (.pointer (some ⟨p, 0, none⟩))) w1) (H2 : (∃ cd : Array Value, w2.heap[w.drew.heap.size]? = some (.cells cd 5 (0, 0)) ∧ cd.size = 20) ∧ KB (fun _ => False) w.drew w2) :
    WrOut w b (.returned (.pointer (some ⟨w1.heap.size, 0, none⟩))) (w1.alloc (.cells #[.pointer (some ⟨p, 0, none⟩), .slice (some ⟨w.heap.size, 0, none⟩) 0 20] 49)) := by
  obtain ⟨p', q, cur, he, hp, hq, hpq, h1, h2, h3, h4⟩ := HN
  cases he
  obtain ⟨⟨cd, h5, h6⟩, hK⟩ := H2
  have l1 := Lib.lt_of_heap h1
  have l2 := Lib.lt_of_heap h2
  have l5 := Lib.lt_of_heap h5
  have s1 := h4.size
  have s2 := hK.size
  have e0 : w.drew.heap.size = w.heap.size := rfl
  rw [e0] at h5 s2 l5
  exact ⟨w1.heap.size, p, q, w.heap.size, cur, cd, rfl, by omega, by omega, by omega, by omega, hpq, by omega, by omega, by omega, by omega, by omega, heap_alloc_new _ _, alloc_heap_old _ _ _ _ h1, alloc_heap_old _ _ _ _ h2, h3, alloc_heap_old _ _ _ _ (h4.heap h5 id), h6, ((((KB.refl _ w).drewN 1).trans hK (fun _ _ e => e)).trans h4 (fun _ _ e => e)).alloc _⟩

set_option maxHeartbeats 400000 in
set_option maxRecDepth 100000 in
theorem newWriter_any (b : Nat) (w : World) :
    Calls Tryd.prog 21 #[.iface 43 (.pointer (some ⟨b, 0, none⟩))] w fun e w' => WrOut w b e w' := by
  obtain ⟨i0, hi, hz0, hz1, hz2⟩ := info_parts Tryd.info5'
  have hex : ∀ W : World, ∃ w', Sem.run Tryd.prog (Instr.makeSlice 22 (.int .i64 0) (.int .i64 20)) W = .ok (.slice (some ⟨W.heap.size, 0, none⟩) 0 20) w' ∧ (∃ cd : Array Value, w'.heap[W.heap.size]? = some (.cells cd 5 (0, 0)) ∧ cd.size = 20) ∧ KB (fun _ => False) W w' := by
    intro W
    obtain ⟨w', h1, hown, hgrow⟩ := run_make_own (P := Tryd.prog) W W.heap.size 22 5 i0 (.int .u8 0) 1 Tryd.underlying22 hi hz0 hz1 .i64 .i64 20 (by rw [hz2]; omega) (by unfold maxLen; omega) (Nat.le_refl _)
    refine ⟨w', h1, ?_, ⟨hgrow.os, hgrow.tape, hgrow.output, hgrow.size, fun k hk _ => hgrow.block k hk (fun e => by cases e)⟩⟩
    rcases hown.2 with ⟨hv, _⟩ | ⟨g, cap', cur, hv, hbg, hg, hnc, hcm, hcs, htake⟩
    · cases hv
    · cases hv
      exact ⟨cur, hg, by simpa using hcs⟩
  obtain ⟨mk, hmk⟩ := Classical.skolem.1 hex
  have hmr : ∀ W : World, Sem.run Tryd.prog (Instr.makeSlice 22 (.int .i64 0) (.int .i64 20)) W = .ok (.slice (some ⟨W.heap.size, 0, none⟩) 0 20) (mk W) := fun W => (hmk W).1
  have HM := Lib.hid (fun W => (hmk W).2)
  clear hmk hex hi hz0 hz1 hz2
  go_enter Tryd.func21, Tryd.ntmps21
  go_wp2_with fail
  have mixed : Tryd.prog.follows Departure.mixedOrders = true := by kernel_rfl
  go_region_with_o (
    go_at_call 31
    refine (nws_any b _).mono ?_
    intro e w1 hnw
    have HN := Lib.hid hnw
    obtain ⟨p, q, cur, rfl, hp, hq, hpq, h1, h2, h3, h4⟩ := hnw
    clear h1 h2 h3 hp hq hpq h4)
  all_goals (
    go_wp2
    go_ret
    first
    | exact wr_end1 HN.out (HM.out w1)
    | exact wr_end2 HN.out (HM.out w.drew))
end Go.Proofs.Qxb6618767aDoor
