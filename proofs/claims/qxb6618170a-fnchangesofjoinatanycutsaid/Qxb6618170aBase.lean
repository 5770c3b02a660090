import Derived.Test.Qxb6618170aProg
import Derived.Test.Qxb6618170aPlain
import Derived.WalkKit
import Derived.WalkSpells
import Derived.WalkLawsBesides
import Derived.Laws.CopyOwn
import Derived.Deep.MidRow
import Derived.Deep.QuietTactic
import Derived.BigQuiet
namespace Go.Proofs.Qxb6618170a
open Go.RowKit

/-- A slice of bools at an address. -/
def Bools (w : World) (ao : Option Addr) (L : List Bool) : Prop :=
  L = [] ∨ ∃ b o, ao = some ⟨b, o, none⟩ ∧ b < w.heap.size ∧ ∀ i v, L[i]? = some v → w.cell? ⟨b, o + i, none⟩ = some (.bool v)

theorem Bools.block {w : World} {ao : Option Addr} {L : List Bool} (h : Bools w ao L) : ∀ a, ao = some a → L ≠ [] → a.block < w.heap.size := by
  intro a ha hne
  rcases h with h | ⟨b, o, hb, hlt, _⟩
  · exact absurd h hne
  · rw [hb] at ha; cases ha; exact hlt

theorem Bools.below {B : Nat} {w w' : World} {ao : Option Addr} {L : List Bool} (h : Bools w ao L) (hw : Below B w w') (hB : ∀ a, ao = some a → L ≠ [] → a.block < B) : Bools w' ao L := by
  by_cases hne : L = []
  · exact .inl hne
  rcases h with h | ⟨b, o, rfl, hb, hc⟩
  · exact .inl h
  · have hbB : b < B := hB _ rfl hne
    exact .inr ⟨b, o, rfl, by have := hw.size; omega, fun i v hv => (hw.cell (p := ⟨b, o + i, none⟩) hbB).trans (hc i v hv)⟩

theorem Bools.at_ {w : World} {ao : Option Addr} {L : List Bool} (h : Bools w ao L) {k : Nat} (hk : k < L.length) : ∃ b o, ao = some ⟨b, o, none⟩ ∧ b < w.heap.size ∧ w.cell? ⟨b, o + k, none⟩ = some (.bool L[k]) := by
  rcases h with h | ⟨b, o, rfl, hb, hc⟩
  · simp [h] at hk
  · exact ⟨b, o, rfl, hb, hc k _ (by simp)⟩

def SomeBool (e : Ending) : Prop := ∃ b, e = .returned (.bool b)

set_option maxHeartbeats 400000 in
theorem bytes_gaps (ao bo : Option Addr) (n m ac bc : Nat) (w : World) (hn : n ≤ maxLen) (hm : m ≤ maxLen) :
    Calls Try.prog 5 #[.slice ao n ac, .slice bo m bc] w fun e w' => SomeBool e ∧ w = w' := by
  unfold maxLen at hn hm
  go_enter Try.func5, Try.ntmps5
  go_wp2
  all_goals (go_ret; exact ⟨⟨_, rfl⟩, rfl⟩)

theorem take_snoc {α : Type} (L : List α) (k : Nat) (h : k < L.length) : L.take (k + 1) = L.take k ++ [L[k]] := by
  rw [List.take_succ_eq_append_getElem h]

theorem kept_snoc (L : List Bool) (k : Nat) (h : k < L.length) : kept (L.take (k + 1)) = kept (L.take k) + if L[k] = true then 0 else 1 := by
  rw [take_snoc L k h, kept, kept, List.countP_append]
  cases hL : L[k] <;> simp
theorem kept_le (L : List Bool) : kept L ≤ L.length := List.countP_le_length

def RelK (L : List Bool) (n i : Value) : Prop := ∃ k : Nat, k ≤ L.length ∧ i = .int .i64 k ∧ n = .int .i64 (kept (L.take k) : Nat)

set_option maxHeartbeats 400000 in
theorem keptCount_any (ao : Option Addr) (L : List Bool) (cap : Nat) (w : World) (h : Bools w ao L) (hl : L.length ≤ maxLen) :
    Calls Try.prog 6 #[.slice ao L.length cap] w fun e w' => e = .returned (.int .i64 (kept L : Nat)) ∧ w = w' := by
  unfold maxLen at hl
  go_enter Try.func6, Try.ntmps6
  go_wp2
  go_loop [3, 4] (fun n i => RelK L n i) (fun _ i => L.length - (intOf i).toNat)
  case atStart => exact ⟨0, Nat.zero_le _, rfl, rfl⟩
  case round =>
    obtain ⟨k, hk, rfl, rfl⟩ := hrel
    have hkl : kept (L.take k) ≤ k := by have := kept_le (L.take k); have := List.length_take_le k L; omega
    by_cases hlt : k < L.length
    · obtain ⟨b, o, rfl, hb, hc⟩ := h.at_ hlt
      have HS : Hid (kept (L.take (k + 1)) = kept (L.take k) + if L[k] = true then 0 else 1) := kept_snoc L k hlt
      have hlt' : (k : Int) < (L.length : Int) := by omega
      cases hv : L[k] with
      | true =>
        go_wp2
        go_round
        case rel => exact ⟨k + 1, by omega, by go_num, by rw [HS.out, if_pos hv]; rfl⟩
        case measure => simp [intOf]; omega
      | false =>
        go_wp2
        go_round
        case rel => exact ⟨k + 1, by omega, by go_num, by rw [HS.out, if_neg (by simp [hv])]; go_num⟩
        case measure => simp [intOf]; omega
    · obtain rfl : k = L.length := by omega
      go_wp2
      go_ret
      exact ⟨rfl, rfl⟩
end Go.Proofs.Qxb6618170a
