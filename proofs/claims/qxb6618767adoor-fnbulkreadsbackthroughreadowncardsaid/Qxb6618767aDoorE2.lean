import Derived.Test.Qxb6618767aDoorE
namespace Go.Proofs.Qxb6618767aDoor
open Go.RowKit

theorem BW.cells {w : World} {p q b : Nat} {r : Option Nat} {U V : List Value} (H : BW w p q b r U V) :
    w.cell? ⟨p, 0, none⟩ = some .nilIface ∧ w.cell? ⟨p, 1, none⟩ = some (.slice (some ⟨q, 0, none⟩) 16384 16384) ∧ w.cell? ⟨p, 2, none⟩ = some (.int .i64 V.length) ∧ w.cell? ⟨p, 3, none⟩ = some (.iface 43 (.pointer (some ⟨b, 0, none⟩))) ∧ (∀ j, w.frozen? ⟨p, j, none⟩ = false) := by
  refine ⟨?_, ?_, ?_, ?_, fun j => Lib.frozen_of_heap H.hp j⟩ <;> (rw [Lib.cell_of_heap H.hp]; rfl)

theorem BW.rowCell {w : World} {p q b : Nat} {r : Option Nat} {U V : List Value} (H : BW w p q b r U V) (j : Nat) (hj : j < 16384) : ∃ v, w.cell? ⟨q, j, none⟩ = some v ∧ w.frozen? ⟨q, j, none⟩ = false := by
  obtain ⟨cur, hq, hcs, _⟩ := H.hq
  exact ⟨cur[j], by rw [Lib.cell_of_heap hq]; exact Array.getElem?_eq_getElem _, Lib.frozen_of_heap hq j⟩

theorem Flushed.kbPut {w w' : World} {p q b : Nat} {r : Option Nat} {T : List Value} {e : Ending} (h : Flushed w p q b r T e w') : ∃ r', BW w' p q b r' T [] ∧ KB (PutS p q b r) w w' ∧ (r' = r ∨ ∃ g, r' = some g ∧ w.heap.size ≤ g) := by
  obtain ⟨_, r', hB, hK, hr⟩ := h
  exact ⟨r', hB, hK.mono (fun k e => e.elim .inl (fun e => .inr (.inr e))), hr⟩

set_option maxHeartbeats 1000000 in
set_option maxRecDepth 100000 in
theorem writeByte_full (p q b : Nat) (r : Option Nat) (U V : List Value) (c : Int) (w : World) (h : BW w p q b r U V) (hfull : V.length = 16384) (hlim : U.length + V.length ≤ 1073741824) :
    Calls Tryd.prog 32 #[.pointer (some ⟨p, 0, none⟩), .int .u8 c] w fun e w' => e = .returned .nilIface ∧ OutW w p q b r (U ++ V ++ [.int .u8 c]) w' := by
  have H := Lib.hid h
  have hp := h.hp
  have hpq := h.pq
  have d0 : w.cell? ⟨p, 0, none⟩ = some .nilIface := h.cells.1
  clear h
  go_enter Tryd.func32, Tryd.ntmps32
  have hnn : (16384 - (V.length : Int)) ≤ 0 := by omega
  have HF := Lib.hid hfull
  clear hfull
  go_wp2_with (first
    | (go_at_call 38; refine (available_any p q b r U V _ H.out).mono ?_; rintro e w2 ⟨rfl, n, rfl⟩)
    | (go_at_call 23; refine (flush_any p q b r U V _ (H.out.drewN n) hlim).mono ?_; intro e w1 hfl; obtain ⟨rfl, hfl'⟩ := id hfl; obtain ⟨r1, hB1, hK1, hr1⟩ := hfl.kbPut; have H1 := Lib.hid hB1; have HK1 := Lib.hid (((KB.refl (PutS p q b r) w).drewN n).trans hK1 (fun _ _ e => e)); have HR := Lib.hid hr1; obtain ⟨d0', d1, d2, d3, df⟩ := hB1.cells; obtain ⟨v0, cq, fq⟩ := hB1.rowCell 0 (by omega); clear hfl hfl' hB1 hK1 hr1 d3))
  go_region
  obtain ⟨w2, hw2⟩ : ∃ w2, w2 = (w1.setCell ⟨q, 0, none⟩ (.int .u8 c)).drew := ⟨_, rfl⟩
  rw [← hw2]
  have hp2 := (heap_setCell_other w1 ⟨q, 0, none⟩ p (.int .u8 c) hpq).trans H1.out.hp
  have hh : w2.heap = (w1.setCell ⟨q, 0, none⟩ (.int .u8 c)).heap := by rw [hw2]; rfl
  rw [← hh] at hp2
  have k2 : w2.cell? ⟨p, 2, none⟩ = some (.int .i64 0) := by rw [Lib.cell_of_heap hp2]; rfl
  have g2 : w2.frozen? ⟨p, 2, none⟩ = false := Lib.frozen_of_heap hp2 2
  have hK2 := Lib.hid (((KB.refl (fun k => k = q) w1).setCell q 0 (.int .u8 c) rfl).drewN 1)
  have HK2 : Hid (KB (fun k => k = q) w1 w2) := Lib.hid (by rw [hw2]; exact hK2.out)
  have Hh := Lib.hid hh
  clear hw2 hK2 hh cq fq d1 d2 hp2 d0' df
  go_wp2
  go_ret
  have hr1 := HR.out
  rw [drewN_heap] at hr1
  have := OutW.trans hr1 HK1.out (H1.out.putByte (.int .u8 c) (by simp) rfl Hh.out HK2.out)
  rw [List.append_nil] at this
  exact ⟨rfl, this⟩

theorem writeByte_any (p q b : Nat) (r : Option Nat) (U V : List Value) (c : Int) (w : World) (h : BW w p q b r U V) (hlim : U.length + V.length ≤ 1073741824) :
    Calls Tryd.prog 32 #[.pointer (some ⟨p, 0, none⟩), .int .u8 c] w fun e w' => e = .returned .nilIface ∧ OutW w p q b r (U ++ V ++ [.int .u8 c]) w' := by
  by_cases hv : V.length < 16384
  · exact writeByte_room p q b r U V c w h hv
  · exact writeByte_full p q b r U V c w h (by have := h.hV; omega) hlim
end Go.Proofs.Qxb6618767aDoor
