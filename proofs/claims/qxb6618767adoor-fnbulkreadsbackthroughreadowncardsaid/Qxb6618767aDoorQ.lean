import Derived.Test.Qxb6618767aDoorZ2
namespace Go.Proofs.Qxb6618767aDoor
open Go.RowKit

set_option maxHeartbeats 400000 in
theorem bytes12_yes (spa spb : Option Addr) (na capa nb capb : Nat) (w : World) (h : na + nb ≤ 1048576) :
    Calls Tryd.prog 12 #[.slice spa na capa, .slice spb nb capb] w fun e w' => e = .returned (.bool true) ∧ w' = w := by
  have h1 : ¬ ((na : Int) > 1048576) := by omega
  have h2 : ¬ ((nb : Int) > 1048576) := by omega
  have h3 : ¬ ((na : Int) + (nb : Int) > 1048576) := by omega
  go_enter Tryd.func12, Tryd.ntmps12
  go_wp2
  go_ret
  exact ⟨rfl, rfl⟩

set_option maxHeartbeats 400000 in
theorem bytes12_no (spa spb : Option Addr) (na capa nb capb : Nat) (w : World) (hm : na ≤ maxLen) (hm2 : nb ≤ maxLen) (h : 1048576 < na + nb) :
    Calls Tryd.prog 12 #[.slice spa na capa, .slice spb nb capb] w fun e w' => e = .returned (.bool false) ∧ w' = w := by
  unfold maxLen at hm hm2
  by_cases h1 : (na : Int) > 1048576
  · go_enter Tryd.func12, Tryd.ntmps12
    go_wp2
    go_ret
    exact ⟨rfl, rfl⟩
  · by_cases h2 : (nb : Int) > 1048576
    · have h1' : (na : Int) ≤ 1048576 := by omega
      go_enter Tryd.func12, Tryd.ntmps12
      go_wp2
      go_ret
      exact ⟨rfl, rfl⟩
    · have h3 : (na : Int) + (nb : Int) > 1048576 := by omega
      have h1' : (na : Int) ≤ 1048576 := by omega
      have h2' : (nb : Int) ≤ 1048576 := by omega
      go_enter Tryd.func12, Tryd.ntmps12
      go_wp2
      go_ret
      exact ⟨rfl, rfl⟩

def RelDig (n : Nat) (v0 v3 : Value) : Prop := ∃ (m c : Nat), v0 = .int .i64 m ∧ v3 = .int .i64 c ∧ c + Lib.nDigits m = Lib.nDigits n + 1 ∧ m ≤ n ∧ 1 ≤ c

set_option maxHeartbeats 400000 in
theorem decDigits_any (n : Nat) (w : World) (hn : n ≤ 1048576) :
    Calls Tryd.prog 14 #[.int .i64 n] w fun e w' => e = .returned (.int .i64 (Lib.nDigits n)) ∧ w' = w := by
  have hnd : Lib.nDigits n ≤ 7 := by have := digits_le n hn; rwa [Lib.decDigits_length] at this
  go_enter Tryd.func14, Tryd.ntmps14
  go_wp2
  go_loop [0, 3] (fun v0 v3 => RelDig n v0 v3) (fun v0 _ => (intOf v0).toNat)
  case atStart => exact ⟨n, 1, rfl, rfl, by omega, Nat.le_refl _, Nat.le_refl _⟩
  case round =>
    obtain ⟨m, c, rfl, rfl, h1, h2, h3⟩ := hrel
    have hp := Lib.nDigits_pos m
    by_cases h10 : m < 10
    · have h10' : ¬ ((m : Int) ≥ 10) := by omega
      go_wp2
      go_ret
      have e : (c : Int) = (Lib.nDigits n : Int) := by rw [Lib.nDigits_small h10] at h1; omega
      exact ⟨by rw [← e]; rfl, rfl⟩
    · have h10' : (m : Int) ≥ 10 := by omega
      have hb := Lib.nDigits_big h10
      have hc7 : (c : Int) ≤ 8 := by omega
      have HH := Lib.hid hb
      have H1 := Lib.hid h1
      clear hb h1
      go_wp2
      go_round
      case rel => exact ⟨m / 10, c + 1, by go_num, by go_num, by have := HH.out; have := H1.out; omega, by omega, by omega⟩
      case measure => simp [intOf]; omega
end Go.Proofs.Qxb6618767aDoor
