import Derived.Test.Qxb6618767aDoorG2
import Derived.Lib.BufferSrc
namespace Go.Proofs.Qxb6618767aDoor
open Go.RowKit

theorem Tryd.size5 : (Tryd.prog.info? 5).map (·.size) = some 1 := by kernel_rfl

/-- A Buffer that holds U in row r (none: nothing so far). -/
def BufRow (w : World) (b g : Nat) (U : List Value) (cap : Nat) (cur : Array Value) (lr : Int) : Prop :=
  w.heap[b]? = some (.cells #[.slice (some ⟨g, 0, none⟩) U.length cap, .int .i64 0, .int .i8 lr] 40 (0, 0)) ∧ w.heap[g]? = some (.cells cur 5 (0, 0)) ∧ cur.size = cap ∧ U.length ≤ cap ∧ cap ≤ maxLen ∧ cur.toList.take U.length = U ∧ g ≠ b

def WroteRow (w : World) (b g : Nat) (V : List Value) (n : Nat) (e : Ending) (w' : World) : Prop :=
  e = .returned (.tuple #[.int .i64 n, .nilIface]) ∧ (∃ cap cur, BufRow w' b g V cap cur 0) ∧ KB (fun k => k = b ∨ k = g) w w'

theorem KB.setRow (w : World) (g : Nat) (cs : Array Value) : KB (fun k => k = g) w (w.setRow g cs) :=
  ⟨rfl, rfl, rfl, by simp [World.setRow], fun k _ hk => setRow_other w g k cs hk⟩

theorem wpList_copy_kb {P : Program} {w : World} {ops : Array Oper} {rest : List Oper} {o : Oper} {a : Act} {Q : Exit → Act → World → Prop} (hgd : o.guard = none) (d s : Operand) (dT sT : TypeId)
    (ho : o.op = .call { callee := .builtin .copy, args := #[d, s], argTypes := #[dT, sT] }) (elem : TypeId) (hu : P.underlying dT = some (.slice elem)) (hsz : (P.info? elem).map (·.size) = some 1)
    (g off dLen dCap : Nat) (ad : Addr) (sLen sCap : Nat) (hd : a.eval d = .slice (some ⟨g, off, none⟩) dLen dCap) (hs : a.eval s = .slice (some ad) sLen sCap)
    (cur : Array Value) (t : TypeId) (hg : w.heap[g]? = some (.cells cur t (0, 0))) (cs : List Value) (hn : cs.length = Nat.min sLen dLen)
    (hsrc : ∀ j v, cs[j]? = some v → w.cell? (ad.add j) = some v) (hfit : off + cs.length ≤ cur.size) (h1 : ∀ v ∈ cs, v.oneCell' = true)
    (h : ∀ w', Hid (w'.heap[g]? = some (.cells (splice cur.toList off cs).toArray t (0, 0))) → KB (fun k => k = g) w w' → wpList P ops Q rest (a.put o.dst (goInt cs.length)) w') : wpList P ops Q (o :: rest) a w :=
  wpList_copy_own hgd d s dT sT ho elem hu hsz g off dLen dCap ad sLen sCap hd hs cur t hg cs hn hsrc hfit h1 (h _ (setRow_heap w g _ _ t _ hg) (KB.setRow w g _))

theorem splice_take (L cs : List Value) (off : Nat) (h : off + cs.length ≤ L.length) : (splice L off cs).take (off + cs.length) = L.take off ++ cs := by
  unfold splice
  rw [← List.append_assoc, List.take_left' (by simp; omega)]

set_option maxHeartbeats 1000000 in
set_option maxRecDepth 100000 in
theorem write_room (b g cap n c : Nat) (lr : Int) (cur : Array Value) (U cs : List Value) (a : Addr) (w : World) (h : BufRow w b g U cap cur lr) (hn : cs.length = n) (hn1 : 1 ≤ n) (hroom : n ≤ cap - U.length)
    (hab : a.block ≠ b) (hsrc : ∀ j v, cs[j]? = some v → w.cell? (a.add j) = some v) (h1c : ∀ v ∈ cs, v.oneCell' = true) :
    Calls Tryd.prog 76 #[.pointer (some ⟨b, 0, none⟩), .slice (some a) n c] w fun e w' => WroteRow w b g (U ++ cs) n e w' := by
  obtain ⟨hbk, hg, hcs, hlc, hcm, htk, hgb⟩ := h
  have c2 : w.cell? ⟨b, 2, none⟩ = some (.int .i8 lr) := by rw [Lib.cell_of_heap hbk]; rfl
  have f2 : w.frozen? ⟨b, 2, none⟩ = false := Lib.frozen_of_heap hbk 2
  go_enter Tryd.func76, Tryd.ntmps76
  go_wp2_with fail
  obtain ⟨w1, hw1⟩ : ∃ w1, w1 = w.setCell ⟨b, 2, none⟩ (.int .i8 0) := ⟨_, rfl⟩
  rw [← hw1]
  have hbk1 : w1.heap[b]? = some (.cells #[.slice (some ⟨g, 0, none⟩) U.length cap, .int .i64 0, .int .i8 0] 40 (0, 0)) := by rw [hw1, heap_setCell_same w b 2 _ 40 _ hbk]; rfl
  have hK1 : KB (fun k => k = b ∨ k = g) w w1 := by rw [hw1]; exact (KB.refl _ _).setCell b 2 _ (.inl rfl)
  have hg1 : w1.heap[g]? = some (.cells cur 5 (0, 0)) := by rw [hw1, heap_setCell_other _ _ _ _ hgb]; exact hg
  have hsrc1 : ∀ j v, cs[j]? = some v → w1.cell? (a.add j) = some v := fun j v hj => by
    rw [hw1]
    exact (Lib.grownBy_setCell w b 2 _).cell (hsrc j v hj) (by rw [Lib.block_add]; exact fun e => hab (Option.some.inj e))
  have c0 : w1.cell? ⟨b, 0, none⟩ = some (.slice (some ⟨g, 0, none⟩) U.length cap) := by rw [Lib.cell_of_heap hbk1]; rfl
  have f0 : w1.frozen? ⟨b, 0, none⟩ = false := Lib.frozen_of_heap hbk1 0
  clear hw1 c2 f2 hsrc hbk hg
  refine (tryGrow_room b _ U.length cap n w1 c0 f0 hlc hcm hroom).mono ?_
  rintro e w2 ⟨rfl, hw2⟩
  have hbk2 : w2.heap[b]? = some (.cells #[.slice (some ⟨g, 0, none⟩) (U.length + n) cap, .int .i64 0, .int .i8 0] 40 (0, 0)) := by rw [hw2, heap_setCell_same w1 b 0 _ 40 _ hbk1]; rfl
  have hK2 : KB (fun k => k = b ∨ k = g) w w2 := by rw [hw2]; exact hK1.setCell b 0 _ (.inl rfl)
  have hg2 : w2.heap[g]? = some (.cells cur 5 (0, 0)) := by rw [hw2, heap_setCell_other _ _ _ _ hgb]; exact hg1
  have hsrc2 : ∀ j v, cs[j]? = some v → w2.cell? (a.add j) = some v := fun j v hj => by
    rw [hw2]
    exact (Lib.grownBy_setCell w1 b 0 _).cell (hsrc1 j v hj) (by rw [Lib.block_add]; exact fun e => hab (Option.some.inj e))
  have d0 : w2.cell? ⟨b, 0, none⟩ = some (.slice (some ⟨g, 0, none⟩) (U.length + n) cap) := by rw [Lib.cell_of_heap hbk2]; rfl
  clear hw2 hbk1 hg1 hsrc1 c0 f0 hK1
  have hcm' := hcm
  unfold maxLen at hcm'
  have Hg2 := Lib.hid hg2
  have Hn := Lib.hid hn
  have Hcs := Lib.hid hcs
  clear hg2 hn hcs
  go_wp2_with ((with_reducible refine wpList_copy_kb ?_ (.tmp 29) (.tmp 30) 22 22 ?_ 5 Tryd.underlying22 Tryd.size5 g U.length n (cap - U.length) a n c ?_ ?_ cur 5 Hg2.out cs ?_ hsrc2 ?_ h1c ?_); rfl; rfl; rfl; rfl; (rw [Hn.out]; exact (Nat.min_self _).symm); (have := Hn.out; have := Hcs.out; omega))
  intro w3 HG3 hK3
  rw [Hn.out]
  have hbk3 := hK3.heap hbk2 (fun e => hgb e.symm)
  have hK4 : KB (fun k => k = b ∨ k = g) w w3 := hK2.trans hK3 (fun _ _ e => .inr e)
  clear hK3 hK2 hbk2 d0 hsrc2
  go_wp2
  go_ret2
  refine ⟨rfl, ⟨cap, _, ⟨?_, HG3.out, ?_, ?_, hcm, ?_, hgb⟩⟩, hK4⟩
  · rw [List.length_append, Hn.out]; exact hbk3
  · have := length_splice cur.toList U.length cs (by have := Hn.out; have := Hcs.out; simp; omega)
    have h2 := Hcs.out
    simpa [h2] using this
  · rw [List.length_append, Hn.out]; omega
  · rw [List.length_append]
    have := splice_take cur.toList cs U.length (by have := Hn.out; have := Hcs.out; simp; omega)
    rw [htk] at this
    exact this
end Go.Proofs.Qxb6618767aDoor
