import Derived.Test.Qxb6618767aDoorW1
namespace Go.Proofs.Qxb6618767aDoor
open Go.RowKit

/-- The Buffer at block b holds U; its row is r. -/
def BufAt (w : World) (b : Nat) (r : Option Nat) (U : List Value) : Prop :=
  (r = none ∧ U = [] ∧ ∃ lr, w.heap[b]? = some (.cells #[.slice none 0 0, .int .i64 0, .int .i8 lr] 40 (0, 0))) ∨ (∃ g cap cur lr, r = some g ∧ ¬ U.length = 0 ∧ BufRow w b g U cap cur lr)

def Wrote (w : World) (b : Nat) (r : Option Nat) (V : List Value) (n : Nat) (e : Ending) (w' : World) : Prop :=
  e = .returned (.tuple #[.int .i64 n, .nilIface]) ∧ ∃ r', BufAt w' b r' V ∧ KB (fun k => k = b ∨ some k = r) w w' ∧ (r' = r ∨ ∃ g, r' = some g ∧ w.heap.size ≤ g)

/-- (*bytes.Buffer).Write, whatever it holds. -/
theorem buf_write (b n c : Nat) (r : Option Nat) (U cs : List Value) (a : Addr) (w : World) (h : BufAt w b r U) (hU : ∀ v ∈ U, v.oneCell' = true) (hn : cs.length = n) (hn1 : 1 ≤ n) (hlim : U.length + n ≤ 1073741824)
    (hab : a.block ≠ b) (hsrc : ∀ j v, cs[j]? = some v → w.cell? (a.add j) = some v) (h1c : ∀ v ∈ cs, v.oneCell' = true) :
    Calls Tryd.prog 76 #[.pointer (some ⟨b, 0, none⟩), .slice (some a) n c] w fun e w' => Wrote w b r (U ++ cs) n e w' := by
  have hne : ¬ (U ++ cs).length = 0 := by rw [List.length_append]; omega
  rcases h with ⟨rfl, rfl, lr, hbk⟩ | ⟨g, cap, cur, lr, rfl, hU0, hR⟩
  · refine (write_grow b 0 0 n c none lr [] cs a w hbk rfl (Nat.le_refl _) (Nat.zero_le _) hn (by omega) (fun w1 _ _ h1 => grow_nil b n 0 w1 h1 hn1 (by simp at hlim; omega)) hab hsrc h1c).mono ?_
    rintro e w' ⟨he, ⟨cap, cur, hB⟩, hK⟩
    exact ⟨he, _, .inr ⟨_, _, _, _, rfl, hne, hB⟩, hK.mono (fun _ e => .inl e), .inr ⟨_, rfl, Nat.le_refl _⟩⟩
  · by_cases hroom : n ≤ cap - U.length
    · refine (write_room b g cap n c lr cur U cs a w hR hn hn1 hroom hab hsrc h1c).mono ?_
      rintro e w' ⟨he, ⟨cap, cur, hB⟩, hK⟩
      exact ⟨he, _, .inr ⟨_, _, _, _, rfl, hne, hB⟩, hK.mono (fun _ e => e.elim .inl (fun e => .inr (by rw [e]))), .inl rfl⟩
    · obtain ⟨hbk, hg, hcs, hlc, hcm, htk, hgb⟩ := hR
      refine (write_grow b U.length cap n c _ lr U cs a w hbk rfl hlc hcm hn (by omega) (fun w1 hK _ h1 => ?_) hab hsrc h1c).mono ?_
      · have := grow_row b g U.length cap n 0 cur w1 h1 (hK.heap hg hgb) hlc hcm hcs hgb (by rw [htk]; exact hU) hU0 hn1 (by omega) hlim
        rw [htk] at this
        exact this
      · rintro e w' ⟨he, ⟨cap, cur, hB⟩, hK⟩
        exact ⟨he, _, .inr ⟨_, _, _, _, rfl, hne, hB⟩, hK.mono (fun _ e => .inl e), .inr ⟨_, rfl, Nat.le_refl _⟩⟩
end Go.Proofs.Qxb6618767aDoor
