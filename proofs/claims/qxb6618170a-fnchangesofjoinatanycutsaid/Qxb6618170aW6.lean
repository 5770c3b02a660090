import Derived.Test.Qxb6618170aW5
namespace Go.Proofs.Qxb6618170a
open Go.RowKit

theorem eqIn4 (w : World) (e : Nat) (a b c d : Int) : (Op.equalIn (e + 1 + 1) 31 (.agg #[.int .i64 a, .int .i64 b, .int .i64 c, .int .i64 d]) (.agg #[.int .i64 a, .int .i64 b, .int .i64 c, .int .i64 d])).run Try.prog w = .ok true w := by
  have u3 := Try.underlying3
  have a3 := Try.isAgg3
  have z3 := Try.sizeOf3
  have hq : ∀ (x y : Int) (w : World), (Op.equalIn (e + 1) 3 (.int .i64 x) (.int .i64 y)).run Try.prog w = .ok (x == y) w := fun x y w => run_equalIn_int w e 3 .i64 .i64 x y Try.underlying3
  rw [Op.equalIn]
  simp only [Sem.run_bind, run_underlying Try.underlying31, Result.andThen_ok]
  simp only [Std.Legacy.Range.forIn_eq_forIn_range', Std.Legacy.Range.size, List.range', Nat.sub_zero]
  go_simp

theorem neq4 (w : World) (a b c d : Int) : (binOp .neq 31 (.agg #[.int .i64 a, .int .i64 b, .int .i64 c, .int .i64 d]) (.agg #[.int .i64 a, .int .i64 b, .int .i64 c, .int .i64 d])).run Try.prog w = .ok (.bool false) w := by
  rw [run_neq_struct, show (10000 : Nat) = 9998 + 1 + 1 from rfl, eqIn4]
  rfl

def RelE (w : World) (M : List C4) (i : Value) (wr : World) : Prop := ∃ k : Nat, k ≤ M.length ∧ i = .int .i64 k ∧ Below w.heap.size w wr
theorem below_drewN' {B : Nat} {w wr : World} (h : Below B w wr) : ∀ n : Nat, Below B w (wr.drewN n) := fun n => by
  induction n with
  | zero => exact h
  | succ n ih => exact ih.drew

set_option maxHeartbeats 1000000 in
theorem same_self (ao bo : Option Addr) (M : List C4) (ac bc : Nat) (w : World) (hA : Chs w ao M) (hB : Chs w bo M) (hl : M.length ≤ 1048576) :
    Calls Try.prog 9 #[.slice ao M.length ac, .slice bo M.length bc] w fun e w' => e = .returned (.bool true) ∧ Below w.heap.size w w' := by
  have hg : ∀ (op : BinOp) (x y : Operand) (xs ys : Array Value) (w : World), (eqGuard op 31 x y (.agg xs) (.agg ys)).run Try.prog w = .ok () w := fun op x y xs ys w => run_eqGuard_agg w op 31 x y xs ys (by kernel_rfl)
  have hn := neq4
  go_enter Try.func9, Try.ntmps9
  go_wp2
  go_loopw [5] (fun i wr => RelE w M i wr) (fun i _ => M.length - (intOf i).toNat)
  case atStart => exact ⟨0, Nat.zero_le _, rfl, Below.refl _ _⟩
  case round =>
    obtain ⟨k, hk, rfl, hW⟩ := hrel
    by_cases hlt : k < M.length
    · obtain h | ⟨b, rfl, hb, hc⟩ := hA
      · simp [h] at hlt
      obtain h | ⟨b', rfl, hb', hc'⟩ := hB
      · simp [h] at hlt
      obtain ⟨c0, c1, c2, c3⟩ := (hc k M[k] (by simp)).below hW hb
      obtain ⟨d0, d1, d2, d3⟩ := (hc' k M[k] (by simp)).below hW hb'
      have hlt' : (k : Int) < (M.length : Int) := by omega
      clear hc hc'
      go_wp2
      go_quiet (fail)
      go_wp2
      go_roundw
      case rel => exact ⟨k + 1, by omega, by go_num, below_drewN' hW nq⟩
      case measure => simp [intOf]; omega
    · go_wp2
      go_ret
      exact ⟨rfl, hW⟩
end Go.Proofs.Qxb6618170a
