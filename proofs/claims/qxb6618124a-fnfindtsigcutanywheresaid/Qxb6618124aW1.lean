import Derived.Test.Qxb6618124aBase
namespace Go.Proofs.Qxb6618124a
open Go.RowKit

theorem Recs.alloc {w : World} {ao : Option Addr} {rs : List Rc} (h : Recs w ao rs) (o : Obj) : Recs (w.alloc o) ao rs := by
  rcases h with h | ⟨b, off, rfl, hb, hc⟩
  · exact .inl h
  · refine .inr ⟨b, off, rfl, by simp; omega, fun i r hr => ?_⟩
    obtain ⟨c0, c1, c2, c3, c4, c5⟩ := hc i r hr
    have key : ∀ p : Addr, p.block = b → (w.alloc o).cell? p = w.cell? p := fun p hp => World.cell?_of_block (by rw [hp]; exact Below.heap_alloc w o b hb)
    exact ⟨(key _ rfl).trans c0, (key _ rfl).trans c1, (key _ rfl).trans c2, (key _ rfl).trans c3, (key _ rfl).trans c4, (key _ rfl).trans c5⟩

theorem Recs.block {w : World} {ao : Option Addr} {rs : List Rc} (h : Recs w ao rs) : ∀ a, ao = some a → rs ≠ [] → a.block < w.heap.size := by
  intro a ha hne
  rcases h with h | ⟨b, o, hb, hlt, _⟩
  · exact absurd h hne
  · rw [hb] at ha; cases ha; exact hlt

/-- What lies below B stays. -/
theorem Recs.below {B : Nat} {w w' : World} {ao : Option Addr} {rs : List Rc} (h : Recs w ao rs) (hw : Below B w w') (hB : ∀ a, ao = some a → rs ≠ [] → a.block < B) : Recs w' ao rs := by
  by_cases hne : rs = []
  · exact .inl hne
  rcases h with h | ⟨b, off, rfl, hb, hc⟩
  · exact .inl h
  · refine .inr ⟨b, off, rfl, by have := hw.size; omega, fun i r hr => ?_⟩
    obtain ⟨c0, c1, c2, c3, c4, c5⟩ := hc i r hr
    have hbB : b < B := hB _ rfl hne
    have key : ∀ p : Addr, p.block = b → w'.cell? p = w.cell? p := fun p hp => hw.cell (by rw [hp]; exact hbB)
    exact ⟨(key _ rfl).trans c0, (key _ rfl).trans c1, (key _ rfl).trans c2, (key _ rfl).trans c3, (key _ rfl).trans c4, (key _ rfl).trans c5⟩

/-- The call gives some bool. -/
def SomeBool (e : Ending) : Prop := ∃ b, e = .returned (.bool b)
theorem SomeBool.mk (b : Bool) : SomeBool (.returned (.bool b)) := ⟨b, rfl⟩
/-- A counter below n, and some number. -/
def CtAny (n : Nat) (z i : Value) : Prop := ∃ (k : Nat) (m : Int), k ≤ n ∧ i = .int .i64 k ∧ z = .int .i64 m

set_option maxHeartbeats 400000 in
theorem bytes_one (ao : Option Addr) (rs : List Rc) (cap : Nat) (k : Int) (x : Rc) (a0 a1 a2 a3 : Int) (w : World) (h : Recs w ao rs) (hl : rs.length ≤ maxLen) :
    Calls Try.prog 12 #[.slice ao rs.length cap, .int .i64 k, .agg #[.int .i64 x.off, .int .u16 x.ty, .int .u16 x.cls, .int .u32 x.ttl, .int .i64 x.doff, .slice x.da x.dl x.dc], .agg #[.int .u16 a0, .int .u8 a1, .int .u8 a2, .int .u16 a3]] w
      fun e w' => SomeBool e ∧ Below w.heap.size w w' := by
  unfold maxLen at hl
  have fin : ∀ (o1 o2 : Obj), Below w.heap.size w ((w.alloc o1).alloc o2) := fun o1 o2 => ((Below.refl _ _).alloc (Nat.le_refl _) _).alloc (by simp) _
  by_cases c2 : 1048576 < (rs.length : Int)
  · go_enter Try.func12, Try.ntmps12
    go_wp2
    go_ret
    exact ⟨.mk _, fin _ _⟩
  · go_enter Try.func12, Try.ntmps12
    go_wp2
    go_loop [9, 10] (fun z i => CtAny rs.length z i) (fun _ i => rs.length - (intOf i).toNat)
    case atStart => exact ⟨0, _, Nat.zero_le _, rfl, rfl⟩
    case round =>
      obtain ⟨k, z, hk, rfl, rfl⟩ := hrel
      by_cases hlt : k < rs.length
      · obtain h | ⟨b, o, rfl, hb, hc⟩ := (h.alloc (.cells #[.int .i64 x.off, .int .u16 x.ty, .int .u16 x.cls, .int .u32 x.ttl, .int .i64 x.doff, .slice x.da x.dl x.dc] 40)).alloc (.cells #[.int .u16 a0, .int .u8 a1, .int .u8 a2, .int .u16 a3] 28)
        · simp [h] at hlt
        have h6 := hc k rs[k] (by simp [hlt])
        have h65 := h6.c5
        have hlt' : (k : Int) < (rs.length : Int) := by omega
        go_wp2
        all_goals first
          | (go_ret; exact ⟨.mk _, fin _ _⟩)
          | (go_round
             case rel => exact ⟨k + 1, _, by omega, by go_num, rfl⟩
             case measure => simp [intOf]; omega)
      · go_wp2
        all_goals (go_ret; exact ⟨.mk _, fin _ _⟩)
end Go.Proofs.Qxb6618124a
