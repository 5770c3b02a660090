import Derived.Test.Qxb6618767aDoorF
namespace Go.Proofs.Qxb6618767aDoor
open Go.RowKit

def Drew (w w' : World) : Prop := ∃ n, w' = w.drewN n

set_option maxHeartbeats 400000 in
theorem available_any (p q b : Nat) (r : Option Nat) (U V : List Value) (w : World) (h : BW w p q b r U V) :
    Calls Tryd.prog 38 #[.pointer (some ⟨p, 0, none⟩)] w fun e w' => e = .returned (.int .i64 (16384 - V.length)) ∧ Drew w w' := by
  have c1 : w.cell? ⟨p, 1, none⟩ = some (.slice (some ⟨q, 0, none⟩) 16384 16384) := by rw [Lib.cell_of_heap h.hp]; rfl
  have c2 : w.cell? ⟨p, 2, none⟩ = some (.int .i64 V.length) := by rw [Lib.cell_of_heap h.hp]; rfl
  have hV := h.hV
  clear h
  go_enter Tryd.func38, Tryd.ntmps38
  go_wp2
  go_quiet (fail)
  go_wp2
  go_ret
  exact ⟨rfl, nq, rfl⟩

set_option maxHeartbeats 400000 in
theorem buffered_any (p q b : Nat) (r : Option Nat) (U V : List Value) (w : World) (h : BW w p q b r U V) :
    Calls Tryd.prog 40 #[.pointer (some ⟨p, 0, none⟩)] w fun e w' => e = .returned (.int .i64 V.length) ∧ w' = w := by
  have c2 : w.cell? ⟨p, 2, none⟩ = some (.int .i64 V.length) := by rw [Lib.cell_of_heap h.hp]; rfl
  clear h
  go_enter Tryd.func40, Tryd.ntmps40
  go_wp2
  go_ret
  exact ⟨rfl, rfl⟩
end Go.Proofs.Qxb6618767aDoor
