import Derived.Test.Qxb6618170aBase
import Derived.ProofKit
import Derived.OpenShut
import Derived.Deep.Slices
import Derived.Deep.Grids
import Derived.ChangeOld
import Derived.Lib.SmallJoins
namespace Go.Proofs.Qxb6618170a
open Go.ChangeShapes Go.WideShapes Go.ChangeAt Go.RowKit Go.Joins

theorem Try.own : ownKnob Try.prog.godebug = none := by kernel_rfl
theorem Try.laidOut : laidOutB Try.prog = true := by kernel_rfl
theorem Try.cells4 : Try.prog.cellsOf 4 = 1 := by kernel_rfl

theorem open_bs {H : Type} {enc : TypeId × Value → H} {w : World} {base : Nat} {held : Bool} {fuel : Nat} {ao : Option Addr} {len cap : Nat} {x : DataW H × List MemPlace} (h : DataW.trod enc Try.prog w base (fun _ => true) held fuel 22 [.slice ao len cap] = some x) :
    ∃ D : List Bool, len = D.length ∧ Bools w ao D ∧ (ao = none → D = [] ∧ cap = 0) ∧ D.length ≤ maxLen := by
  rcases Go.Deep.open_bools Try.underlying22 Try.underlying4 Try.cells4 h with ⟨hcs, _⟩ | ⟨a, l, c, f, hcs, hb, hl, hm, _, hel⟩
  · simp at hcs
    obtain ⟨rfl, rfl, rfl⟩ := hcs
    exact ⟨[], rfl, .inl rfl, fun _ => ⟨rfl, rfl⟩, Nat.zero_le _⟩
  · simp at hcs
    obtain ⟨rfl, rfl, rfl⟩ := hcs
    refine ⟨(List.range len).map f, by simp, ?_, (fun h => by cases h), by simp; omega⟩
    by_cases h0 : len = 0
    · subst h0; exact .inl rfl
    · right
      obtain ⟨b, o, s⟩ := a
      have hs : s = none := by
        have := hel 0 (by omega)
        have e : ((⟨b, o, s⟩ : Addr).add 0) = ⟨b, o, s⟩ := by simp [Addr.add]
        rw [e] at this
        exact World.cell?_spot this
      subst hs
      refine ⟨b, o, rfl, ?_, fun i r hr => ?_⟩
      · have := hel 0 (by omega)
        rw [Addr.add_lit] at this
        exact World.block_lt_of_cell? w ⟨b, o + 0, none⟩ this
      · have hi : i < len := by
          have := (List.getElem?_eq_some_iff.1 hr).1
          simpa using this
        have hr' : f i = r := by simpa [hi] using hr
        subst hr'
        have := hel i (by omega)
        rwa [Addr.add_lit] at this
end Go.Proofs.Qxb6618170a
