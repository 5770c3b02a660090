import Derived.Test.Qxb6618767aDoorL4
namespace Go.Proofs.Qxb6618767aDoor
open Go.RowKit

/-- The digit at place t of u's numeral of nd digits. -/
def dgt (u nd t : Nat) : Nat := u / 10 ^ (nd - 1 - t) % 10

theorem dgt_lt (u nd t : Nat) : dgt u nd t < 10 := Nat.mod_lt _ (by omega)

theorem digit_cell (u t : Nat) (ht : t < Lib.nDigits u) : (Lib.byteCells (Lib.decDigits u))[t]? = some (.int .u8 ((48 + dgt u (Lib.nDigits u) t : Nat) : Int)) := by
  have h10 := dgt_lt u (Lib.nDigits u) t
  have e : (Lib.dg u (Lib.nDigits u - 1 - t)).toNat = 48 + dgt u (Lib.nDigits u) t := by
    show (UInt8.ofNat (48 + dgt u (Lib.nDigits u) t)).toNat = _
    rw [UInt8.toNat_ofNat']
    omega
  rw [Lib.decDigits_eq]
  simp only [Lib.byteCells, List.map_map, List.getElem?_map]
  rw [List.getElem?_range ht]
  simp only [Option.map_some, Function.comp_apply, e]

theorem pow_le_of_digits (u : Nat) (h : 2 ≤ Lib.nDigits u) : 10 ^ (Lib.nDigits u - 1) ≤ u := by
  induction u using Nat.strongRecOn with
  | _ u ih =>
    by_cases h10 : u < 10
    · rw [Lib.nDigits_small h10] at h; omega
    · rw [Lib.nDigits_big h10] at h ⊢
      by_cases h2 : 2 ≤ Lib.nDigits (u / 10)
      · have := ih (u / 10) (by omega) h2
        have e : Lib.nDigits (u / 10) + 1 - 1 = (Lib.nDigits (u / 10) - 1) + 1 := by omega
        rw [e, Nat.pow_succ]
        omega
      · have e : Lib.nDigits (u / 10) = 1 := by have := Lib.nDigits_pos (u / 10); omega
        rw [e]
        omega

theorem first_digit (u : Nat) (h : 2 ≤ Lib.nDigits u) : dgt u (Lib.nDigits u) 0 ≠ 0 := by
  have h1 := pow_le_of_digits u h
  have h2 := Lib.lt_pow_nDigits u
  have e : Lib.nDigits u = (Lib.nDigits u - 1) + 1 := by omega
  rw [e, Nat.pow_succ] at h2
  unfold dgt
  rw [Nat.sub_zero]
  generalize Lib.nDigits u - 1 = m at h1 h2
  have hp : 0 < 10 ^ m := Nat.pow_pos (by omega)
  have l1 : 1 ≤ u / 10 ^ m := (Nat.le_div_iff_mul_le hp).2 (by omega)
  have l2 : u / 10 ^ m < 10 := (Nat.div_lt_iff_lt_mul hp).2 (by omega)
  rw [Nat.mod_eq_of_lt l2]
  omega

/-- What has been read of the numeral after t digits. -/
def pref (u nd t : Nat) : Nat := u / 10 ^ (nd - t)

theorem pref_zero (u : Nat) : pref u (Lib.nDigits u) 0 = 0 := by
  unfold pref
  exact Nat.div_eq_of_lt (Lib.lt_pow_nDigits u)
theorem pref_all (u nd : Nat) : pref u nd nd = u := by
  unfold pref
  rw [Nat.sub_self, Nat.pow_zero, Nat.div_one]
theorem pref_step (u nd t : Nat) (h : t < nd) : pref u nd (t + 1) = pref u nd t * 10 + dgt u nd t := by
  unfold pref dgt
  have e1 : nd - (t + 1) = nd - 1 - t := by omega
  have e2 : nd - t = (nd - 1 - t) + 1 := by omega
  rw [e1, e2, Nat.pow_succ, ← Nat.div_div_eq_div_mul]
  omega
theorem pref_le (u nd t : Nat) : pref u nd t ≤ u := Nat.div_le_self _ _

theorem bulk_cells (cs : List Value) (n d : Nat) (hn : cs.length = n) (hd : Lib.nDigits n = d) :
    (bulk cs)[0]? = some (.int .u8 36) ∧ (∀ t, t < d → (bulk cs)[1 + t]? = some (.int .u8 ((48 + dgt n d t : Nat) : Int))) ∧ (bulk cs)[1 + d]? = some (.int .u8 13) ∧ (bulk cs)[2 + d]? = some (.int .u8 10) ∧ (bulk cs).drop (d + 3) = cs ++ crlf := by
  subst hn hd
  have hl : (Lib.byteCells (Lib.decDigits cs.length)).length = Lib.nDigits cs.length := by rw [Lib.byteCells_length, Lib.decDigits_length]
  have e : bulk cs = [.int .u8 36] ++ (Lib.byteCells (Lib.decDigits cs.length) ++ (crlf ++ (cs ++ crlf))) := by simp only [bulk, List.append_assoc]
  refine ⟨by rw [e]; rfl, ?_, ?_, ?_, ?_⟩
  · intro t ht
    rw [e, List.getElem?_append_right (by simp), List.getElem?_append_left (by rw [hl]; simp; omega)]
    have : 1 + t - [Value.int .u8 36].length = t := by simp
    rw [this]
    exact digit_cell _ _ ht
  · rw [e, List.getElem?_append_right (by simp), List.getElem?_append_right (by rw [hl]; simp)]
    have : 1 + Lib.nDigits cs.length - [Value.int .u8 36].length - (Lib.byteCells (Lib.decDigits cs.length)).length = 0 := by rw [hl]; simp
    rw [this]; rfl
  · have l1 : [Value.int .u8 36].length = 1 := rfl
    rw [e, List.getElem?_append_right (by rw [l1]; omega), List.getElem?_append_right (by rw [hl, l1]; omega)]
    have : 2 + Lib.nDigits cs.length - [Value.int .u8 36].length - (Lib.byteCells (Lib.decDigits cs.length)).length = 1 := by rw [hl, l1]; omega
    rw [this]; rfl
  · obtain ⟨H, h1, h2⟩ := bulk_split cs
    rw [h2, ← h1, List.drop_left]
end Go.Proofs.Qxb6618767aDoor
