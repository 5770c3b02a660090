import Derived.Test.Qxb6618767aDoorI6
namespace Go.Proofs.Qxb6618767aDoor
open Go.RowKit

theorem results_tmp4 {fn : Func} {t u v x : Tmp} (h : fn.results = #[.tmp t, .tmp u, .tmp v, .tmp x]) (tmps : Array Value) (P : Program) (w : World) :
    (results fn tmps).run P w = .ok (.tuple #[tmps.getD t undef, tmps.getD u undef, tmps.getD v undef, tmps.getD x undef]) w := by
  simp [results, h]

theorem zs_new {w w1 w2 : World} {s o c : Nat} {D : List Value} {e : Ending} (hw1 : w1 = w.alloc (.cells #[.slice (some ⟨s, o, none⟩) D.length c, .int .i64 0, .int .i64 (-1)] 78)) (hc : D.length ≤ c) (hs : Src w s o D) (hu : B8 D) (h : ZrOut w1 w.heap.size e w2) :
    ∃ z p q, e = .returned (.pointer (some ⟨z, 0, none⟩)) ∧ ZS w2 z p q w.heap.size s o D 0 0 0 [] ∧ w.heap.size ≤ p ∧ w.heap.size ≤ q ∧ KB (fun _ => False) w w2 := by
  obtain ⟨z, p, q, cur, cells, he, hp, hq, hz, hpq, hzp, hzq, h1, h2, h3, h4, h5, hK⟩ := h
  have hsz : w1.heap.size = w.heap.size + 1 := by rw [hw1]; simp
  have hK1 : KB (fun _ => False) w w1 := by rw [hw1]; exact (KB.refl _ w).alloc _
  have hd1 : w1.heap[w.heap.size]? = some (.cells #[.slice (some ⟨s, o, none⟩) D.length c, .int .i64 0, .int .i64 (-1)] 78 (0, 0)) := by rw [hw1]; exact heap_alloc_new _ _
  have hKw := hK1.trans hK (fun _ _ e => e)
  have ls : s < w.heap.size := by
    obtain ⟨row, t, fz, hr, _⟩ := hs
    exact Lib.lt_of_heap hr
  refine ⟨z, p, q, he, ⟨⟨⟨-1, -1, h1⟩, ⟨cur, h2, h3, rfl⟩, rfl, Nat.zero_le _, ⟨⟨c, -1, hc, hK.heap hd1 id⟩, hs.kb hKw id, by omega, Nat.zero_le _⟩, hpq, by omega, by omega, by omega, by omega, hu, fun v hv => by cases hv⟩, ⟨cells, h4, h5⟩, hzp, hzq, by omega⟩, by omega, by omega, hKw⟩

def TwiceOut (w : World) (v : Nat) (D : List Value) (e : Ending) (w' : World) : Prop :=
  ∃ g1 g2, e = .returned (.tuple #[.slice (some ⟨g1, 0, none⟩) v v, .bool false, .slice (some ⟨g2, 0, none⟩) 2 2, .bool false]) ∧ Src w' g1 0 (D.take v) ∧ Src w' g2 0 ((D.drop v).take 2) ∧ KB (fun _ => False) w w'

theorem KB.high {S : Nat → Prop} {w w1 w2 : World} (h : KB (fun _ => False) w w1) (h2 : KB S w1 w2) (hS : ∀ k, S k → w.heap.size ≤ k) : KB (fun _ => False) w w2 :=
  h.trans h2 (fun i hi hs => by have := hS i hs; omega)

set_option maxHeartbeats 1000000 in
set_option maxRecDepth 100000 in
theorem twice_any (s o c v : Nat) (D : List Value) (w : World) (hc : D.length ≤ c) (hs : Src w s o D) (hu : B8 D) (hD : D.length = v + 2) (hv : v ≤ 1048576) :
    Calls Tryd.prog 10 #[.slice (some ⟨s, o, none⟩) D.length c, .int .i64 v, .int .i64 2] w fun e w' => TwiceOut w v D e w' := by
  have HS := Lib.hid hs
  have HU := Lib.hid hu
  have HD := Lib.hid hD
  clear hs hu hD
  go_enter Tryd.func10, Tryd.ntmps10
  go_wp2_with (first
    | (go_at_call 26; refine (bnew_any _ _ _ _).mono ?_; rintro e w1 ⟨rfl, hw1⟩; have HW1 := Lib.hid hw1; clear hw1)
    | (go_at_call 25; refine (newReader_any w.heap.size _).mono ?_; intro e w2 h2; obtain ⟨z, p, q, rfl, hZ2, hp2, hq2, hK2⟩ := zs_new HW1.out hc HS.out HU.out h2; have HZ2 := Lib.hid hZ2; have HK2 := Lib.hid hK2; clear h2 hZ2 hK2))
  go_at_call 27
  refine (readOwn_any z p q w.heap.size s o v D D 0 0 0 [] _ HZ2.out rfl (by have := HD.out; omega) (by have := HD.out; omega) hv).mono ?_
  rintro e w3 ⟨g1, rfl, hg1, hs1, ⟨i3, a3, b3, F3, hZ3, hstr3⟩, hK3⟩
  have HZ3 := Lib.hid hZ3
  have HS1 := Lib.hid hs1
  have HSTR3 := Lib.hid hstr3
  have HK3 := Lib.hid (HK2.out.high hK3 (fun k e => by omega))
  have hg1n : g1 ≠ p ∧ g1 ≠ q ∧ g1 ≠ w.heap.size := by
    obtain ⟨lp, lq, ld, _⟩ := HZ2.out.rs.lts
    exact ⟨by omega, by omega, by omega⟩
  clear hZ3 hs1 hstr3 hK3
  go_wp2_with fail
  go_at_call 27
  refine (readOwn_any z p q w.heap.size s o 2 D (D.drop v) i3 a3 b3 F3 _ HZ3.out HSTR3.out (by have := HD.out; rw [List.length_drop]; omega) (by have := HD.out; omega) (by omega)).mono ?_
  rintro e w4 ⟨g2, rfl, hg2, hs2, _, hK4⟩
  have HS2 := Lib.hid hs2
  have HS14 := Lib.hid (HS1.out.kb hK4 (fun e => by omega))
  have HK4 := Lib.hid (HK3.out.high hK4 (fun k e => by omega))
  clear hs2 hK4
  go_wp2
  go_quiet (fail)
  go_wp2
  refine bodyPost_ret (results_tmp4 rfl _ _ _) rfl ?_
  exact ⟨g1, g2, rfl, HS14.out.drewN nq, HS2.out.drewN nq, HK4.out.drewN nq⟩
end Go.Proofs.Qxb6618767aDoor
