import Derived.Test.Qxb6618767aDoorM4
import Derived.Test.Qxb6618767aDoorCards
import Derived.Test.Qxb6618767aDoorTie
import Derived.ProofKit
import Derived.OpenShut
import Derived.ChangeSlices
import Derived.ChangeOld
import Derived.Lib.SmallJoins
import Derived.Lib.LaidTab
import Derived.LaidSub
import Derived.LaidMore
import Derived.Lay
import Derived.SevenTiedAt
import Derived.Stop.Joined
namespace Go.Proofs.Qxb6618767aDoor
open Go.ChangeShapes Go.WideShapes Go.ChangeAt Go.RowKit Go.Joins

theorem Tryd.own : ownKnob Tryd.prog.godebug = none := by kernel_rfl
theorem Tryd.laidOut : laidOutB Tryd.prog = true := by kernel_rfl
theorem Tryd.cells5 : Tryd.prog.cellsOf 5 = 1 := by kernel_rfl

theorem open_bytes {H : Type} {enc : TypeId × Value → H} {w : World} {base : Nat} {held : Bool} {fuel : Nat} {ao : Option Addr} {len cap : Nat} {x : DataW H × List MemPlace} (h : DataW.trod enc Tryd.prog w base (fun _ => true) held fuel 22 [.slice ao len cap] = some x) :
    ∃ cs : List Value, cs.length = len ∧ U8 cs ∧ len ≤ maxLen ∧ (ao = none → len = 0) ∧ (∀ a, ao = some a → ∀ j v, cs[j]? = some v → w.cell? (a.add j) = some v) := by
  rcases open_ints Tryd.underlying22 Tryd.underlying5 Tryd.cells5 h with ⟨hcs, _⟩ | ⟨a, l, c, zs, hcs, hb, hl, hm, hzl, _, hel, _⟩
  · simp at hcs
    obtain ⟨rfl, rfl, rfl⟩ := hcs
    exact ⟨[], rfl, (fun v hv => by cases hv), Nat.zero_le _, fun _ => rfl, fun a e => by cases e⟩
  · simp at hcs hzl
    obtain ⟨rfl, rfl, rfl⟩ := hcs
    refine ⟨(zs.take len).map (Value.int .u8), by simp; omega, ?_, by omega, (fun e => by cases e), ?_⟩
    · intro v hv
      obtain ⟨z, _, rfl⟩ := List.mem_map.1 hv
      exact ⟨z, rfl⟩
    · intro a' e j v hj
      cases e
      have hjl : j < len := by
        have := (List.getElem?_eq_some_iff.1 hj).1
        simp at this
        omega
      rw [hel j (by omega)]
      rw [List.getElem?_map, List.getElem?_take_of_lt hjl, List.getElem?_eq_getElem (by omega)] at hj
      simp only [Option.map_some] at hj
      rw [← hj, List.getD, List.getElem?_eq_getElem (by omega)]
      rfl

theorem pow_tab : (Rows.laid_internal_strconv_uint64pow10 : DataW Unit) = Lib.tabData .u64 Lib.pow10Tab := by kernel_rfl

theorem tab_of_laid4 {W : World} (h : laidMetH Tryd.prog Rows.fnBulkRepliesJoinAndMeasureRow.laid W) : Lib.TabIs Tryd.prog W pow10Name .u64 Lib.pow10Tab := by
  rw [MakeChecks.laidMetH_plain _ _ _ (by kernel_rfl)] at h
  have h2 := h.filter (fun x => x.1 == pow10Name)
  have e : (Rows.fnBulkRepliesJoinAndMeasureRow.laid.filter fun x => x.1 == pow10Name) = [(pow10Name, Lib.tabData .u64 Lib.pow10Tab)] := by kernel_rfl
  rw [e] at h2
  exact Lib.tabIs_of_head (g := 4) (t := 100) (e := 58) (n := 20) (by kernel_rfl) (by kernel_rfl) (by kernel_rfl) (by kernel_rfl) (by kernel_rfl) (by kernel_rfl) h2
end Go.Proofs.Qxb6618767aDoor
