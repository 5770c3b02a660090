import Derived.Test.Qxb6618124aProg
import Derived.WalkKit
import Derived.WalkSpells
import Derived.WalkLawsBesides
namespace Go.Proofs.Qxb6618124a
open Go.RowKit

/-- A record as it lies in memory: five numbers and a slice's header. -/
structure Rc where
  off : Int
  ty : Int
  cls : Int
  ttl : Int
  doff : Int
  da : Option Addr
  dl : Nat
  dc : Nat

def Rc.vals (r : Rc) : List Value := [.int .i64 r.off, .int .u16 r.ty, .int .u16 r.cls, .int .u32 r.ttl, .int .i64 r.doff, .slice r.da r.dl r.dc]

/-- The six cells of a record at a place. -/
structure At6 (w : World) (b o : Nat) (r : Rc) : Prop where
  c0 : w.cell? ⟨b, o, none⟩ = some (.int .i64 r.off)
  c1 : w.cell? ⟨b, o + 1, none⟩ = some (.int .u16 r.ty)
  c2 : w.cell? ⟨b, o + 2, none⟩ = some (.int .u16 r.cls)
  c3 : w.cell? ⟨b, o + 3, none⟩ = some (.int .u32 r.ttl)
  c4 : w.cell? ⟨b, o + 4, none⟩ = some (.int .i64 r.doff)
  c5 : w.cell? ⟨b, o + 5, none⟩ = some (.slice r.da r.dl r.dc)

/-- A slice of records at an address. -/
def Recs (w : World) (ao : Option Addr) (rs : List Rc) : Prop :=
  rs = [] ∨ ∃ b o, ao = some ⟨b, o, none⟩ ∧ b < w.heap.size ∧ ∀ i r, rs[i]? = some r → At6 w b (o + i * 6) r

set_option maxHeartbeats 400000 in
theorem rec_bytes (t : Int) (ao : Option Addr) (rs : List Rc) (cap : Nat) (w : World) (h : Recs w ao rs) (hl : rs.length ≤ maxLen) (ht : 0 ≤ t) (ht2 : t ≤ 1125899906842624) :
    Calls Try.prog 13 #[.int .i64 t, .slice ao rs.length cap] w fun e w' => w' = w ∧ ∃ z : Int, e = .returned (.int .i64 z) ∧ t ≤ z ∧ z ≤ 1125899906842624 ∧ (z ≤ 1048576 → t + 48 * rs.length ≤ z) := by
  unfold maxLen at hl
  by_cases c1 : 1048576 < t
  · go_enter Try.func13, Try.ntmps13
    go_wp2
    go_ret
    exact ⟨rfl, t, rfl, by omega, by omega, by omega⟩
  · by_cases c2 : 1048576 < (rs.length : Int)
    · go_enter Try.func13, Try.ntmps13
      go_wp2
      go_ret
      exact ⟨rfl, _, rfl, by omega, by omega, by omega⟩
    · go_enter Try.func13, Try.ntmps13
      go_wp2
      go_loop [0, 5] (fun T i => ∃ (k : Nat) (z : Int), k ≤ rs.length ∧ i = .int .i64 k ∧ T = .int .i64 z ∧ t + 48 * rs.length ≤ z ∧ z ≤ 1125899906842624)
        (fun _ i => rs.length - (intOf i).toNat)
      case atStart => exact ⟨0, _, Nat.zero_le _, rfl, rfl, by omega, by omega⟩
      case round =>
        obtain ⟨k, z, hk, rfl, rfl, hz1, hz2⟩ := hrel
        by_cases hlt : k < rs.length
        · by_cases hz : z ≤ 1048576
          · obtain h | ⟨b, o, rfl, hb, hc⟩ := h
            · simp [h] at hlt
            have h6 := hc k rs[k] (by simp [hlt])
            have h65 := h6.c5
            have hlt' : (k : Int) < (rs.length : Int) := by omega
            by_cases hd : 1048576 < ((rs[k]).dl : Int)
            · go_wp2
              go_ret
              exact ⟨rfl, _, rfl, by omega, by omega, by omega⟩
            · go_wp2
              go_round
              case rel => exact ⟨k + 1, _, by omega, by go_num, rfl, by omega, by omega⟩
              case measure => simp [intOf]; omega
          · go_wp2
            go_ret
            exact ⟨rfl, _, rfl, by omega, by omega, by omega⟩
        · go_wp2
          go_ret
          exact ⟨rfl, _, rfl, by omega, by omega, by omega⟩
end Go.Proofs.Qxb6618124a
