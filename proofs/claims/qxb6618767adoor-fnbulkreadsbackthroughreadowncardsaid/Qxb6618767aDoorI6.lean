import Derived.Test.Qxb6618767aDoorI5
import Derived.Test.Qxb6618767aDoorN3
namespace Go.Proofs.Qxb6618767aDoor
open Go.RowKit

theorem RS.kb {S : Nat → Prop} {w w' : World} {p q d s o : Nat} {D : List Value} {i a b : Nat} {F : List Value} (H : RS w p q d s o D i a b F) (hK : KB S w w') (h1 : ¬ S p) (h2 : ¬ S q) (h3 : ¬ S d) (h4 : ¬ S s) : RS w' p q d s o D i a b F := by
  obtain ⟨lb, lr, hp⟩ := H.hp
  obtain ⟨cq, hq, hq2⟩ := H.hq
  exact ⟨⟨lb, lr, hK.heap hp h1⟩, ⟨cq, hK.heap hq h2, hq2⟩, H.ab, H.b_, H.rd.kb hK h3 h4, H.pq, H.pd, H.qd, H.ps, H.qs, H.uD, H.uF⟩

/-- A resp.Reader at block z over the bufio.Reader at p. -/
structure ZS (w : World) (z p q d s o : Nat) (D : List Value) (i a b : Nat) (F : List Value) : Prop where
  rs : RS w p q d s o D i a b F
  hz : ∃ cells : Array Value, w.heap[z]? = some (.cells cells 76 (0, 0)) ∧ cells[0]? = some (.pointer (some ⟨p, 0, none⟩))
  zp : z ≠ p
  zq : z ≠ q
  zd : z ≠ d

theorem RS.lts {w : World} {p q d s o : Nat} {D : List Value} {i a b : Nat} {F : List Value} (H : RS w p q d s o D i a b F) : p < w.heap.size ∧ q < w.heap.size ∧ d < w.heap.size ∧ s < w.heap.size := by
  obtain ⟨lb, lr, hp⟩ := H.hp
  obtain ⟨cq, hq, _⟩ := H.hq
  obtain ⟨c, pr, _, hd⟩ := H.rd.hd
  obtain ⟨row, t, fz, hs, _⟩ := H.rd.src
  exact ⟨Lib.lt_of_heap hp, Lib.lt_of_heap hq, Lib.lt_of_heap hd, Lib.lt_of_heap hs⟩

def OwnOut (w : World) (z p q d s o n : Nat) (D R : List Value) (e : Ending) (w' : World) : Prop :=
  ∃ g, e = .returned (.tuple #[.slice (some ⟨g, 0, none⟩) n n, .nilIface]) ∧ w.heap.size ≤ g ∧ Src w' g 0 (R.take n) ∧ (∃ i a b F, ZS w' z p q d s o D i a b F ∧ F ++ D.drop i = R.drop n) ∧ KB (fun k => k = p ∨ k = q ∨ k = d) w w'

theorem own_end {w w1 w2 : World} {z p q d s o n : Nat} {D R : List Value} {i a b : Nat} {F : List Value} {e : Ending} (H : ZS w z p q d s o D i a b F) (hK1 : KB (fun _ => False) w w1) (h : FullOut w1 p q d s o w.heap.size n D R e w2) :
    OwnOut w z p q d s o n D R (.returned (.tuple #[.slice (some ⟨w.heap.size, 0, none⟩) n n, .nilIface])) w2 := by
  obtain ⟨_, i', a', b', F', hrs, hstr, hsrc, hK⟩ := h
  obtain ⟨cells, hz, hz0⟩ := H.hz
  have lz := Lib.lt_of_heap hz
  refine ⟨w.heap.size, rfl, Nat.le_refl _, hsrc, ⟨i', a', b', F', ⟨hrs, ⟨cells, hK.heap (hK1.heap hz id) ?_, hz0⟩, H.zp, H.zq, H.zd⟩, hstr⟩, (hK1.mono (fun _ e => e.elim)).trans hK ?_⟩
  · rintro (h | h | h | h)
    · exact H.zp h
    · exact H.zq h
    · exact H.zd h
    · omega
  · rintro k hk (h | h | h | h)
    · exact .inl h
    · exact .inr (.inl h)
    · exact .inr (.inr h)
    · omega

set_option maxHeartbeats 1000000 in
set_option maxRecDepth 100000 in
theorem readOwn_any (z p q d s o n : Nat) (D R : List Value) (i a b : Nat) (F : List Value) (w : World) (h : ZS w z p q d s o D i a b F) (hR : F ++ D.drop i = R) (hn : n ≤ R.length) (hD : D.length ≤ 1073741824) (hn2 : n ≤ 1048576) :
    Calls Tryd.prog 27 #[.pointer (some ⟨z, 0, none⟩), .int .i64 n] w fun e w' => OwnOut w z p q d s o n D R e w' := by
  obtain ⟨i0, hi, hz0, hz1, hz2⟩ := info_parts Tryd.info5'
  have hni : (n : Int) ≤ 1048576 := by omega
  have H := Lib.hid h
  have HR := Lib.hid hR
  clear h hR
  go_enter Tryd.func27, Tryd.ntmps27
  go_wp2_with (at_make; refine wpList_make_full _ rfl _ _ 22 rfl w.heap.size 5 i0 (.int .u8 0) 1 Tryd.underlying22 hi hz0 hz1 .i64 .i64 _ _ n rfl rfl rfl rfl (by rw [hz2]; omega) (by unfold maxLen; omega) (Nat.le_refl _) ?_)
  intro w1 hown hgrow
  generalize (madeCells (Value.int .u8 0).cells (n * 1)).toList = mc at hown
  rcases hown.2 with ⟨hv, _⟩ | ⟨g, cap', cur, hv, hbg, hg, hnc, hcm, hcs, htake⟩
  · cases hv
  · cases hv
    have hK : KB (fun _ => False) w w1 := ⟨hgrow.os, hgrow.tape, hgrow.output, hgrow.size, fun k hk _ => hgrow.block k hk (fun e => by cases e)⟩
    obtain ⟨cells, hzc, hz0⟩ := H.out.hz
    have hz1' := hK.heap hzc id
    have c0 : w1.cell? ⟨z, 0, none⟩ = some (.pointer (some ⟨p, 0, none⟩)) := by rw [Lib.cell_of_heap hz1']; exact hz0
    obtain ⟨lp, lq, ld, ls⟩ := H.out.rs.lts
    have hcs' : cur.size = n := by simpa using hcs
    have HC := Lib.hid (readFull_any p q d s o w.heap.size n D R i a b F cur w1 (H.out.rs.kb hK id id id id) HR.out hn hD (by omega) (by omega) (by omega) (by omega) (by omega) hg hcs')
    have HK := Lib.hid hK
    clear hown hg hcs htake hgrow hK hzc hz0 hz1' hcs' hnc hcm hbg
    go_wp2_with (go_at_call 37; refine HC.out.mono ?_; intro e w2 h2; obtain ⟨rfl, _⟩ := id h2; have H2 := Lib.hid h2; clear h2)
    go_wp2
    go_ret2
    exact own_end H.out HK.out H2.out

def ZrOut (w : World) (d : Nat) (e : Ending) (w' : World) : Prop :=
  ∃ z p q cur cells, e = .returned (.pointer (some ⟨z, 0, none⟩)) ∧ w.heap.size ≤ p ∧ w.heap.size ≤ q ∧ w.heap.size ≤ z ∧ p ≠ q ∧ z ≠ p ∧ z ≠ q ∧ w'.heap[p]? = some (.cells #[.slice (some ⟨q, 0, none⟩) 16384 16384, .iface 53 (.pointer (some ⟨d, 0, none⟩)), .int .i64 0, .int .i64 0, .nilIface, .int .i64 (-1), .int .i64 (-1)] 89 (0, 0)) ∧
    w'.heap[q]? = some (.cells cur 5 (0, 0)) ∧ cur.size = 16384 ∧ w'.heap[z]? = some (.cells cells 76 (0, 0)) ∧ cells[0]? = some (.pointer (some ⟨p, 0, none⟩)) ∧ KB (fun _ => False) w w'

set_option maxHeartbeats 400000 in
set_option maxRecDepth 100000 in
theorem newReader_any (d : Nat) (w : World) :
    Calls Tryd.prog 25 #[.iface 53 (.pointer (some ⟨d, 0, none⟩))] w fun e w' => ZrOut w d e w' := by
  go_enter Tryd.func25, Tryd.ntmps25
  go_wp2_with (go_at_call 36; refine (nrs_any d _).mono ?_; rintro e w1 ⟨p, q, cur, rfl, hp, hq, hpq, h1, h2, h3, hK⟩; have H1 := Lib.hid h1; have H2 := Lib.hid h2; have H3 := Lib.hid h3; have HK := Lib.hid hK; clear h1 h2 h3 hK)
  go_wp2
  go_ret
  have l1 := Lib.lt_of_heap H1.out
  have l2 := Lib.lt_of_heap H2.out
  have s1 := HK.out.size
  exact ⟨w1.heap.size, p, q, cur, _, rfl, hp, hq, s1, hpq, by omega, by omega, alloc_heap_old _ _ _ _ H1.out, alloc_heap_old _ _ _ _ H2.out, H3.out, heap_alloc_new _ _, rfl, HK.out.alloc _⟩
end Go.Proofs.Qxb6618767aDoor
