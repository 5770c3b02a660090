import Derived.Test.Qxb6618767aDoorG
namespace Go.Proofs.Qxb6618767aDoor
open Go.RowKit

theorem Tryd.info5 : (Tryd.prog.info? 5).map (fun i => (i.zero, i.size, i.bytes)) = some (some (.int .u8 0), 1, 1) := by kernel_rfl

theorem small_end {w w0 : World} {b n : Nat} {lr : Int} {M : Array Value} {v : Value} (hbk : w0.heap[b]? = some (.cells #[v, .int .i64 0, .int .i8 lr] 40 (0, 0))) (hsz : w0.heap.size = w.heap.size) (hb : b < w.heap.size)
    (hK : KB (fun k => k = b) w w0) (hM : M.size = 64) (h64 : n ≤ 64) :
    GrowOut w b 0 n lr [] (.returned (.int .i64 0)) ((w0.setCell ⟨b, 0, none⟩ (.slice (some ⟨w0.heap.size, 0, none⟩) n 64)).alloc (.cells M 5)) := by
  have hs1 : (w0.setCell ⟨b, 0, none⟩ (.slice (some ⟨w0.heap.size, 0, none⟩) n 64)).heap.size = w0.heap.size := by simp
  have h1 := heap_setCell_same _ b 0 _ 40 (.slice (some ⟨w0.heap.size, 0, none⟩) n 64) hbk
  refine ⟨rfl, 64, M, ?_, ?_, hM, by simp, by omega, by unfold maxLen; omega, ?_⟩
  · rw [Below.heap_alloc _ _ b (by omega), h1, hsz, Nat.zero_add]; rfl
  · have hnew := heap_alloc_new (w0.setCell ⟨b, 0, none⟩ (.slice (some ⟨w0.heap.size, 0, none⟩) n 64)) (.cells M 5)
    rw [hs1] at hnew
    rw [← hsz]
    exact hnew
  · exact (hK.setCell b 0 _ rfl).trans (T := fun _ => False) (KB.of_below ((Below.refl _ _).alloc (Nat.le_refl _) _)) (fun _ _ h => h.elim)

set_option maxHeartbeats 3000000 in
set_option maxRecDepth 100000 in
theorem grow_nil (b n : Nat) (lr : Int) (w : World) (hbk : w.heap[b]? = some (.cells #[.slice none 0 0, .int .i64 0, .int .i8 lr] 40 (0, 0))) (hn : 1 ≤ n) (hlim : n ≤ 1073741824) :
    Calls Tryd.prog 80 #[.pointer (some ⟨b, 0, none⟩), .int .i64 n] w fun e w' => GrowOut w b 0 n lr [] e w' := by
  have hIs : Lib.IsBuffer 40 5 0 b [] w := ⟨Nat.zero_le _, _, _, hbk, World.ownsRow_nil _ _ _ _, by simp [Value.ownBlock]⟩
  have CL := buf_Len 0 b [] w hIs
  have hnil : ∀ W, (binOp .eql 22 (.slice none 0 0) (.slice none 0 0)).run Tryd.prog W = .ok (.bool true) W := fun W => Lib.run_eql_slice_nil_nil W _ _ Tryd.underlying22
  obtain ⟨i0, hi, hz0, hz1, hz2⟩ := info_parts Tryd.info5
  have mixed : Tryd.prog.follows Departure.mixedOrders = true := by kernel_rfl
  clear hIs
  by_cases h64 : n ≤ 64
  · obtain ⟨M, hM⟩ : ∃ M, M = madeCells (Value.int .u8 0).cells ((64 : Int).toNat * i0.size) := ⟨_, rfl⟩
    have hMs : M.size = 64 := by rw [hM, size_madeCells, hz1]; rfl
    have hmk : ∀ W : World, (Instr.makeSlice 22 (.int .i64 (n : Int)) (.int .i64 64)).run Tryd.prog W = .ok (.slice (some ⟨W.heap.size, 0, none⟩) n 64) (W.alloc (.cells M 5)) := fun W => by
      have h := run_makeSlice (P := Tryd.prog) W 22 5 i0 (.int .u8 0) Tryd.underlying22 hi hz0 .i64 .i64 (n : Int) 64 (by omega) (by omega) (by rw [hz1]; decide) (by rw [hz2]; decide) (by decide)
      rw [← hM] at h
      simpa using h
    clear hM
    go_enter Tryd.func80, Tryd.ntmps80
    go_wp2_with fail
    refine CL.mono ?_
    rintro e W0 ⟨rfl, k, hW0⟩
    have hbk0 : W0.heap[b]? = some (.cells #[.slice none 0 0, .int .i64 0, .int .i8 lr] 40 (0, 0)) := by rw [hW0]; exact hbk
    have hK0 : KB (fun k => k = b) w W0 := by rw [hW0]; exact (KB.refl _ _).drewN k
    have hs0 : W0.heap.size = w.heap.size := by rw [hW0]; rfl
    have Hs0 := Lib.hid hs0
    have c0 : W0.cell? ⟨b, 0, none⟩ = some (.slice none 0 0) := by rw [Lib.cell_of_heap hbk0]; rfl
    have c1 : W0.cell? ⟨b, 1, none⟩ = some (.int .i64 0) := by rw [Lib.cell_of_heap hbk0]; rfl
    have f0 : W0.frozen? ⟨b, 0, none⟩ = false := Lib.frozen_of_heap hbk0 0
    have f1 : W0.frozen? ⟨b, 1, none⟩ = false := Lib.frozen_of_heap hbk0 1
    have hbw : b < w.heap.size := Lib.lt_of_heap hbk
    have hbW0 := Lib.lt_of_heap hbk0
    have c0a : ∀ o, (W0.alloc o).cell? ⟨b, 0, none⟩ = some (.slice none 0 0) := fun o => (World.cell?_of_block (a := ⟨b, 0, none⟩) (Below.heap_alloc W0 o b hbW0)).trans c0
    have f0a : ∀ o, (W0.alloc o).frozen? ⟨b, 0, none⟩ = false := fun o => (World.frozen?_of_block (a := ⟨b, 0, none⟩) (Below.heap_alloc W0 o b hbW0)).trans f0
    clear hW0 CL hs0 hbk
    go_wp2_with fail
    refine (tryGrow_none b none 0 0 n _ c0 (Nat.le_refl _) (Nat.zero_le _) (by omega)).mono ?_
    rintro e w' ⟨rfl, rfl⟩
    go_wp2
    go_ret
    exact small_end hbk0 Hs0.out hbw hK0 hMs h64
  · have hn64 : 64 < n := by omega
    have hlim2 : n ≤ 140737488355328 := by omega
    go_enter Tryd.func80, Tryd.ntmps80
    go_wp2_with fail
    refine CL.mono ?_
    rintro e W0 ⟨rfl, k, hW0⟩
    have hbk0 : W0.heap[b]? = some (.cells #[.slice none 0 0, .int .i64 0, .int .i8 lr] 40 (0, 0)) := by rw [hW0]; exact hbk
    have hK0 : KB (fun k => k = b) w W0 := by rw [hW0]; exact (KB.refl _ _).drewN k
    have hs0 : W0.heap.size = w.heap.size := by rw [hW0]; rfl
    have Hs0 := Lib.hid hs0
    have c0 : W0.cell? ⟨b, 0, none⟩ = some (.slice none 0 0) := by rw [Lib.cell_of_heap hbk0]; rfl
    have c1 : W0.cell? ⟨b, 1, none⟩ = some (.int .i64 0) := by rw [Lib.cell_of_heap hbk0]; rfl
    have f0 : W0.frozen? ⟨b, 0, none⟩ = false := Lib.frozen_of_heap hbk0 0
    have f1 : W0.frozen? ⟨b, 1, none⟩ = false := Lib.frozen_of_heap hbk0 1
    have hbw : b < w.heap.size := Lib.lt_of_heap hbk
    have hbW := Lib.lt_of_heap hbk0
    clear hW0 CL hs0 hbk
    go_wp2_with fail
    refine (tryGrow_none b none 0 0 n _ c0 (Nat.le_refl _) (Nat.zero_le _) (by omega)).mono ?_
    rintro e w' ⟨rfl, rfl⟩
    have hwn : IntKind.i64.wrap (n : Int) = n := by rw [IntKind.wrap_i64]; omega
    go_wp2_with fail
    go_region_with_o (
        go_at_call 82
        refine (growSlice_nil n _ hn hlim2).mono ?_
        rintro e w2 ⟨cap2, cells, rfl, hN, hcsz, hcap2, hcm2, hbel⟩
        have hbk2 : w2.heap[b]? = some (.cells #[.slice none 0 0, .int .i64 0, .int .i8 lr] 40 (0, 0)) := (hbel.block b hbW).trans hbk0
        have d0 : w2.cell? ⟨b, 0, none⟩ = some (.slice none 0 0) := by rw [Lib.cell_of_heap hbk2]; rfl
        have d1 : w2.cell? ⟨b, 1, none⟩ = some (.int .i64 0) := by rw [Lib.cell_of_heap hbk2]; rfl
        have e0 : w2.frozen? ⟨b, 0, none⟩ = false := Lib.frozen_of_heap hbk2 0
        have e1 : w2.frozen? ⟨b, 1, none⟩ = false := Lib.frozen_of_heap hbk2 1)
    all_goals (
      go_wp2
      go_ret
      have hend := grow_end (w0 := w'.drew) (l := 0) (n := n) (old := []) hbk2 Hs0.out hbw (hK0.drewN 1) hN hcsz (by simp) (by omega) hcm2 hbel
      rw [Nat.zero_add] at hend
      exact hend)
end Go.Proofs.Qxb6618767aDoor
