import Derived.Test.Qxb6618124aM
import Derived.Deep.QuietTactic
import Derived.BigQuiet
namespace Go.Proofs.Qxb6618124a
open Go.RowKit

/-- The bytes that a slice header leads to are there. -/
def DatW (w : World) (da : Option Addr) (dl : Nat) : Prop :=
  (da = none → dl = 0) ∧ (0 < dl → ∃ b o, da = some ⟨b, o, none⟩ ∧ b < w.heap.size ∧ ∀ i, i < dl → ∃ n : Int, w.cell? ⟨b, o + i, none⟩ = some (.int .u8 n))

theorem DatW.below {B : Nat} {w w' : World} {da : Option Addr} {dl : Nat} (h : DatW w da dl) (hw : Below B w w') (hB : w.heap.size ≤ B) : DatW w' da dl := by
  refine ⟨h.1, fun hp => ?_⟩
  obtain ⟨b, o, rfl, hb, hc⟩ := h.2 hp
  exact ⟨b, o, rfl, by have := hw.size; omega, fun i hi => by obtain ⟨n, hn⟩ := hc i hi; exact ⟨n, (hw.cell (p := ⟨b, o + i, none⟩) (by show b < B; omega)).trans hn⟩⟩

theorem below_drewN' {B : Nat} {w wr : World} (h : Below B w wr) : ∀ n : Nat, Below B w (wr.drewN n) := fun n => by
  induction n with
  | zero => exact h
  | succ n ih => exact ih.drew

def RelB (w : World) (n : Nat) (i : Value) (wr : World) : Prop := ∃ k : Nat, k ≤ n ∧ i = .int .i64 k ∧ Below w.heap.size w wr

set_option maxHeartbeats 400000 in
theorem bytesEq_self (da : Option Addr) (dl dc : Nat) (w : World) (h : DatW w da dl) (hl : dl ≤ maxLen) :
    Calls Try.prog 26 #[.slice da dl dc, .slice da dl dc] w fun e w' => e = .returned (.bool true) ∧ Below w.heap.size w w' := by
  unfold maxLen at hl
  have hn : ∀ (w : World) (a : Option Addr) (n c n' c' : Nat), (binOp .eql 38 (.slice a n c) (.slice none n' c')).run Try.prog w = .ok (.bool a.isNone) w := fun w a n c n' c' => Lib.run_eql_slice_nil w _ _ a n c n' c' Try.underlying38
  go_enter Try.func26, Try.ntmps26
  go_wp2
  go_loopw [5] (fun i wr => RelB w dl i wr) (fun i _ => dl - (intOf i).toNat)
  case atStart => exact ⟨0, Nat.zero_le _, rfl, Below.refl _ _⟩
  case round =>
    obtain ⟨k, hk, rfl, hB⟩ := hrel
    by_cases hlt : k < dl
    · obtain ⟨b, o, rfl, hb, hc⟩ := h.2 (by omega)
      obtain ⟨n, hcn⟩ := hc k hlt
      have hck := (hB.cell (p := ⟨b, o + k, none⟩) hb).trans hcn
      have hlt' : (k : Int) < (dl : Int) := by omega
      clear hn
      go_wp2
      go_quiet (fail)
      go_wp2
      go_roundw
      case rel => exact ⟨k + 1, by omega, by go_num, below_drewN' hB nq⟩
      case measure => simp [intOf]; omega
    · go_wp2
      go_ret
      exact ⟨rfl, hB⟩

set_option maxHeartbeats 400000 in
theorem eqRR_self (x : Rc) (w : World) (h : DatW w x.da x.dl) (hl : x.dl ≤ maxLen) :
    Calls Try.prog 20 #[.agg #[.int .i64 x.off, .int .u16 x.ty, .int .u16 x.cls, .int .u32 x.ttl, .int .i64 x.doff, .slice x.da x.dl x.dc], .agg #[.int .i64 x.off, .int .u16 x.ty, .int .u16 x.cls, .int .u32 x.ttl, .int .i64 x.doff, .slice x.da x.dl x.dc]] w
      fun e w' => e = .returned (.bool true) ∧ Below w.heap.size w w' := by
  go_enter Try.func20, Try.ntmps20
  go_wp2_with fail
  obtain ⟨wb, hwb⟩ : ∃ wb, wb = (w.alloc (.cells #[.int .i64 x.off, .int .u16 x.ty, .int .u16 x.cls, .int .u32 x.ttl, .int .i64 x.doff, .slice x.da x.dl x.dc] 53)).alloc (.cells #[.int .i64 x.off, .int .u16 x.ty, .int .u16 x.cls, .int .u32 x.ttl, .int .i64 x.doff, .slice x.da x.dl x.dc] 53) := ⟨_, rfl⟩
  rw [← hwb]
  have hb0 : Below w.heap.size w wb := by rw [hwb]; exact ((Below.refl _ _).alloc (Nat.le_refl _) _).alloc (by simp) _
  clear hwb
  refine (bytesEq_self x.da x.dl x.dc wb (h.below hb0 (Nat.le_refl _)) hl).mono ?_
  rintro e w1 ⟨rfl, hb1⟩
  go_wp2
  go_ret
  exact ⟨rfl, hb0.trans (hb1.mono hb0.size)⟩

set_option maxHeartbeats 400000 in
theorem zeroRR_zero (w : World) :
    Calls Try.prog 19 #[.agg #[.int .i64 0, .int .u16 0, .int .u16 0, .int .u32 0, .int .i64 0, .slice none 0 0]] w
      fun e w' => e = .returned (.bool true) ∧ Below w.heap.size w w' := by
  have hn : ∀ (w : World) (a : Option Addr) (n c n' c' : Nat), (binOp .eql 38 (.slice a n c) (.slice none n' c')).run Try.prog w = .ok (.bool a.isNone) w := fun w a n c n' c' => Lib.run_eql_slice_nil w _ _ a n c n' c' Try.underlying38
  go_enter Try.func19, Try.ntmps19
  go_wp2
  go_ret
  exact ⟨rfl, (Below.refl _ _).alloc (Nat.le_refl _) _⟩
end Go.Proofs.Qxb6618124a
