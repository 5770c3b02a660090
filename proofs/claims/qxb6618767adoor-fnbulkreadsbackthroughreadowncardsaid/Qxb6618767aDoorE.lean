import Derived.Test.Qxb6618767aDoorB
namespace Go.Proofs.Qxb6618767aDoor
open Go.RowKit

set_option maxHeartbeats 1000000 in
set_option maxRecDepth 100000 in
theorem writeByte_room (p q b : Nat) (r : Option Nat) (U V : List Value) (c : Int) (w : World) (h : BW w p q b r U V) (hroom : V.length < 16384) :
    Calls Tryd.prog 32 #[.pointer (some ⟨p, 0, none⟩), .int .u8 c] w fun e w' => e = .returned .nilIface ∧ OutW w p q b r (U ++ V ++ [.int .u8 c]) w' := by
  have H := Lib.hid h
  have hp := h.hp
  obtain ⟨cur, hq, hcs, htk⟩ := h.hq
  have hvi : (V.length : Int) < 16384 := by omega
  have hpq := h.pq
  have HC := Lib.hid hcs
  clear h htk hcs
  go_enter Tryd.func32, Tryd.ntmps32
  have d0 : w.cell? ⟨p, 0, none⟩ = some .nilIface := by rw [Lib.cell_of_heap hp]; rfl
  have hnn : ¬ (16384 - (V.length : Int)) ≤ 0 := by omega
  go_wp2_with (go_at_call 38; refine (available_any p q b r U V _ H.out).mono ?_; rintro e w2 ⟨rfl, n, rfl⟩)
  have d1 : (w.drewN n).cell? ⟨p, 1, none⟩ = some (.slice (some ⟨q, 0, none⟩) 16384 16384) := by rw [World.cell?_drewN, Lib.cell_of_heap hp]; rfl
  have d2 : (w.drewN n).cell? ⟨p, 2, none⟩ = some (.int .i64 V.length) := by rw [World.cell?_drewN, Lib.cell_of_heap hp]; rfl
  have hp1 : (w.drewN n).heap[p]? = some (.cells #[.nilIface, .slice (some ⟨q, 0, none⟩) 16384 16384, .int .i64 V.length, .iface 43 (.pointer (some ⟨b, 0, none⟩))] 68 (0, 0)) := by rw [drewN_heap]; exact hp
  have fq : (w.drewN n).frozen? ⟨q, V.length, none⟩ = false := by refine Lib.frozen_of_heap (cs := cur) (T := 5) ?_ _; rw [drewN_heap]; exact hq
  have cq : (w.drewN n).cell? ⟨q, V.length, none⟩ = some (cur[V.length]'(by have := HC.out; omega)) := by
    rw [World.cell?_drewN, Lib.cell_of_heap hq]
    exact Array.getElem?_eq_getElem _
  have H1 := Lib.hid (H.out.drewN n)
  have hK1 := Lib.hid ((KB.refl (PutS p q b r) w).drewN n)
  have hsz : (w.drewN n).heap.size = w.heap.size := by rw [drewN_heap]
  generalize w.drewN n = w1 at d1 d2 hp1 fq cq H1 hK1 hsz ⊢
  go_region
  obtain ⟨w2, hw2⟩ : ∃ w2, w2 = (w1.setCell ⟨q, V.length, none⟩ (.int .u8 c)).drew := ⟨_, rfl⟩
  rw [← hw2]
  have hp2 := (heap_setCell_other w1 ⟨q, V.length, none⟩ p (.int .u8 c) hpq).trans hp1
  have hh : w2.heap = (w1.setCell ⟨q, V.length, none⟩ (.int .u8 c)).heap := by rw [hw2]; rfl
  rw [← hh] at hp2
  have k2 : w2.cell? ⟨p, 2, none⟩ = some (.int .i64 V.length) := by rw [Lib.cell_of_heap hp2]; rfl
  have g2 : w2.frozen? ⟨p, 2, none⟩ = false := Lib.frozen_of_heap hp2 2
  have hK2 := Lib.hid (((KB.refl (fun k => k = q) w1).setCell q V.length (.int .u8 c) rfl).drewN 1)
  have HK2 : Hid (KB (fun k => k = q) w1 w2) := Lib.hid (by rw [hw2]; exact hK2.out)
  have Hh := Lib.hid hh
  clear hw2 hK2 hh cq fq d1 d2 hp1
  go_wp2
  go_ret
  exact ⟨rfl, OutW.trans (.inl rfl) hK1.out (H1.out.putByte _ hroom rfl Hh.out HK2.out)⟩
end Go.Proofs.Qxb6618767aDoor
