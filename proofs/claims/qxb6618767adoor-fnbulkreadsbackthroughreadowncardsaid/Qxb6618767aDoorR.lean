import Derived.Test.Qxb6618767aDoorS
namespace Go.Proofs.Qxb6618767aDoor
open Go.RowKit

theorem write_end {w wr w1 w3 : World} {p q b : Nat} {r r' : Option Nat} {T cs U' V' : List Value} {s o k m c n : Nat} {sp : Option Addr} {cur : Array Value}
    (R : RelS w p q b r T cs s o k m c sp r' U' V' wr) (hn : cs.length = n) (hB1 : BW w1 p q b r' U' V') (hK1 : KB (PutS p q b r) w w1) (hq : w1.heap[q]? = some (.cells cur 5 (0, 0)))
    (HG : w3.heap[q]? = some (.cells (splice cur.toList V'.length (cs.drop k)).toArray 5 (0, 0))) (hK3 : KB (fun k => k = q) w1 w3) (hone : ∀ v ∈ cs.drop k, v.oneCell' = true) (hroom : m ≤ 16384 - V'.length) :
    WroteN w p q b r (T ++ cs) n (.returned (.tuple #[.int .i64 ((k : Int) + (m : Int)), .nilIface])) (w3.setCell ⟨p, 2, none⟩ (.int .i64 ((V'.length : Int) + (m : Int)))) := by
  have hl := R.len
  have hV := hB1.hV
  have hdl : (cs.drop k).length = m := by rw [List.length_drop]; omega
  obtain ⟨h2, h3⟩ := hB1.putCopy (cs.drop k) cur ((V'.length : Int) + (m : Int)) (by rw [List.length_append]; omega) (by rw [hdl]; omega) hone hq HG hK3
  refine ⟨?_, r', U', V' ++ cs.drop k, ?_, h2, KB.transPut R.fresh hK1 h3, R.fresh⟩
  · have : (k : Int) + (m : Int) = (n : Int) := by omega
    rw [this]
  · rw [← List.append_assoc, R.all, List.append_assoc, List.take_append_drop]

theorem BW.direct {w w2 : World} {p q b : Nat} {r r' : Option Nat} {U cs : List Value} (H : BW w p q b r U []) (hB2 : BufAt w2 b r' (U ++ cs)) (hK2 : KB (fun k => k = b ∨ some k = r) w w2) (hr2 : r' = r ∨ ∃ g, r' = some g ∧ w.heap.size ≤ g) (hone : ∀ v ∈ cs, v.oneCell' = true) :
    BW (w2.setCell ⟨p, 0, none⟩ .nilIface) p q b r' (U ++ cs) [] ∧ KB (PutS p q b r) w (w2.setCell ⟨p, 0, none⟩ .nilIface) := by
  have hp2 := hK2.heap H.hp (fun e => e.elim H.pb (fun e => H.rp e.symm))
  have hplt : p < w.heap.size := Lib.lt_of_heap H.hp
  obtain ⟨cur, hq, hcs, _⟩ := H.hq
  have hqlt : q < w.heap.size := Lib.lt_of_heap hq
  have hq2 := hK2.heap hq (fun e => e.elim H.qb (fun e => H.rq e.symm))
  have hrp : r' ≠ some p := by
    rcases hr2 with h | ⟨g, h, hg⟩
    · rw [h]; exact H.rp
    · rw [h]; intro e; cases e; omega
  have hrq : r' ≠ some q := by
    rcases hr2 with h | ⟨g, h, hg⟩
    · rw [h]; exact H.rq
    · rw [h]; intro e; cases e; omega
  refine ⟨⟨?_, ⟨cur, ?_, hcs, rfl⟩, ?_, Nat.zero_le _, ?_, H.pq, H.pb, H.qb, hrp, hrq⟩, ?_⟩
  · rw [heap_setCell_same w2 p 0 _ 68 _ hp2]; rfl
  · rw [heap_setCell_other _ _ _ _ (fun e => H.pq e.symm)]; exact hq2
  · exact hB2.same (fun k hk => heap_setCell_other _ _ _ _ (fun e => by
      have e' : k = p := e
      subst e'
      exact hk.elim H.pb (fun x => hrp x.symm)))
  · intro v hv
    rcases hv with hv | hv
    · rcases List.mem_append.1 hv with hv | hv
      · exact H.one v (.inl hv)
      · exact hone v hv
    · cases hv
  · exact (hK2.mono (fun k e => (show PutS p q b r k from .inr (.inr e)))).setCell p 0 _ (.inl rfl)

theorem rel_next {w wr w5 : World} {p q b : Nat} {r r' r5 : Option Nat} {T cs U' V' U5 : List Value} {s o k m c : Nat} {sp : Option Addr} (R : RelS w p q b r T cs s o k m c sp r' U' V' wr) (cl m' c' : Nat) (hm' : m' + cl = m) (x : Option Addr)
    (hx : 0 < m' → x = some ⟨s, o + (k + cl), none⟩) (hc : m' ≤ c') (hB : BW w5 p q b r5 U5 []) (hU5 : U5 = U' ++ V' ++ (cs.drop k).take cl) (hK : KB (PutS p q b r') wr w5) (hr5 : r5 = r' ∨ ∃ g, r5 = some g ∧ wr.heap.size ≤ g) (hmeas : m' < m ∨ ¬ V'.length = 0) :
    RelW w p q b r T cs s o (.slice x m' c') (.int .i64 ((k : Int) + (cl : Int))) w5 ∧ measW p (.slice x m' c') w5 < measW p (.slice sp m c) wr := by
  refine ⟨⟨k + cl, m', c', x, r5, U5, [], rfl, by rw [Int.natCast_add], ⟨by have := R.len; omega, hc, hx, hB, ?_, KB.transPut R.fresh R.kb hK, fresh_trans R.kb.size R.fresh hr5⟩⟩, measW_lt R.bw.cells.2.2.1 ?_ hB.cells.2.2.1⟩
  · rw [List.append_nil, hU5, R.all, List.append_assoc]
    congr 1
    rw [← List.take_add]
  · rcases hmeas with h | h
    · exact .inl h
    · exact .inr ⟨by omega, h⟩

set_option maxHeartbeats 4000000 in
set_option maxRecDepth 100000 in
theorem write_any (p q b : Nat) (r : Option Nat) (U V cs : List Value) (s o : Nat) (sp : Option Addr) (n cap : Nat) (w : World) (h : BW w p q b r U V) (hn : cs.length = n) (hcap : n ≤ cap) (hlim : U.length + V.length + n ≤ 1073741824)
    (h1 : ∀ v ∈ cs, v.oneCell' = true) (hsrc : 0 < n → sp = some ⟨s, o, none⟩ ∧ Src w s o cs ∧ ¬ PutS p q b r s) :
    Calls Tryd.prog 34 #[.pointer (some ⟨p, 0, none⟩), .slice sp n cap] w fun e w' => WroteN w p q b r (U ++ V ++ cs) n e w' := by
  obtain ⟨T, hT⟩ : ∃ T, T = U ++ V := ⟨_, rfl⟩
  have hTl : T.length = U.length + V.length := by rw [hT, List.length_append]
  rw [← hT]
  have H := Lib.hid h
  have HS := Lib.hid hsrc
  have HN := Lib.hid hn
  have H1 := Lib.hid h1
  have F0 : RelW w p q b r T cs s o (.slice sp n cap) (.int .i64 0) w :=
    ⟨0, n, cap, sp, r, U, V, rfl, rfl, ⟨by omega, hcap, fun h0 => (hsrc h0).1, h, by simp [hT], KB.refl _ _, .inl rfl⟩⟩
  have hm : ∀ (x : Value) (W : World), Sem.run Tryd.prog (method 239 43 x "Write") W = .ok (76, x) W := methodWrite
  clear h hsrc hn h1 hT
  go_enter Tryd.func34, Tryd.ntmps34
  go_wp2
  go_loopw [1, 4] (fun v1 v4 wr => RelW w p q b r T cs s o v1 v4 wr) (fun v1 _ wr => measW p v1 wr)
  case atStart => exact F0
  case round =>
    obtain ⟨k, m, c, sp', r', U', V', rfl, rfl, R⟩ := hrel
    have HR := Lib.hid R
    obtain ⟨d0, d1, d2, d3, df⟩ := R.bw.cells
    have f0 := df 0
    have f2 := df 2
    clear df
    have hV := R.bw.hV
    have hvi : (V'.length : Int) ≤ 16384 := by omega
    have hkm := R.len
    have hcm' := R.cap
    have hkn : (k : Int) + (m : Int) ≤ 1073741824 := by have := HN.out; omega
    have hUV : U'.length + V'.length = T.length + k := by
      have := congrArg List.length R.all
      rw [List.length_append, List.length_append, List.length_take] at this
      omega
    by_cases hroom : m ≤ 16384 - V'.length
    · have ht : ¬ ((m : Int) > 16384 - (V'.length : Int)) := by omega
      clear R
      go_wp2_with (first
        | (go_at_call 38; refine (available_any p q b r' U' V' _ HR.out.bw).mono ?_; rintro e w2 ⟨rfl, nd, rfl⟩))
      obtain ⟨w1, hw1⟩ : ∃ w1, w1 = wr.drewN nd := ⟨_, rfl⟩
      rw [← hw1]
      have hB1 : BW w1 p q b r' U' V' := by rw [hw1]; exact HR.out.bw.drewN nd
      have hK1 : KB (PutS p q b r) w w1 := by rw [hw1]; exact HR.out.kb.drewN nd
      obtain ⟨e0, e1, e2, e3, ef⟩ := hB1.cells
      obtain ⟨cur, hq, hcs, _⟩ := hB1.hq
      have hq' : w1.drew.heap[q]? = some (.cells cur.toList.toArray 5 (0, 0)) := by rw [Array.toArray_toList]; exact hq
      have hdl : (cs.drop k).length = m := by rw [List.length_drop]; omega
      have hpos : 0 < (cs.drop k).length → ∃ ad, sp' = some ad ∧ ∀ j v, (cs.drop k)[j]? = some v → w1.drew.cell? (ad.add j) = some v := by
        intro h0
        have hn0 : 0 < n := by
          have hnn := HN.out
          have hll : 0 < m := by rw [← hdl]; exact h0
          rw [← hnn, ← hkm]
          omega
        obtain ⟨_, hS, hP⟩ := HS.out hn0
        exact ⟨_, HR.out.at_ (by rw [← hdl]; exact h0), ((hS.kb hK1 hP).drewN 1).drop k |>.cell⟩
      have hfit : V'.length + (cs.drop k).length ≤ cur.toList.length := by
        have hcl : cur.toList.length = 16384 := by simpa using hcs
        rw [hcl, hdl]
        omega
      have hmin : (cs.drop k).length = Nat.min m (16384 - V'.length) := by rw [hdl]; exact (Nat.min_eq_left hroom).symm
      have hend : 0 < (cs.drop k).length → (if 16384 = V'.length then some (⟨q, 0, none⟩ : Addr) else some ⟨q, V'.length, none⟩) = some ⟨q, V'.length, none⟩ := by
        intro h0
        rw [hdl] at h0
        rw [if_neg (by omega)]
      have hone : ∀ v ∈ cs.drop k, v.oneCell' = true := fun v hv => H1.out v (List.mem_of_mem_drop hv)
      have HB1 := Lib.hid hB1
      have HK1 := Lib.hid hK1
      have HQ := Lib.hid hq
      have HL := Lib.hid hdl
      clear hw1 d0 d1 d2 d3 f0 f2 hq hcs hB1 hK1 e3 ef
      go_region_law (refine step_copy_kb rfl (.tmp 80) (.tmp 81) 22 22 rfl 5 Tryd.underlying22 Tryd.size5 _ _ _ _ _ _ rfl rfl q V'.length cur.toList 5 hq' (cs.drop k) hmin (fun h0 => ⟨hend h0, hpos h0⟩) hfit hone ?_; intro w3 HG hK3)
      all_goals (
        have hp3 := hK3.heap (k := p) (show w1.drew.heap[p]? = _ from HB1.out.hp) HB1.out.pq
        have g2 : w3.cell? ⟨p, 2, none⟩ = some (.int .i64 V'.length) := by rw [Lib.cell_of_heap hp3]; rfl
        have k2 : w3.frozen? ⟨p, 2, none⟩ = false := Lib.frozen_of_heap hp3 2
        have HK3 := Lib.hid (((KB.refl (fun k => k = q) w1).drewN 1).trans hK3 (fun _ _ e => e))
        clear hp3 hK3
        go_wp2
        all_goals (
          go_ret2
          exact write_end HR.out HN.out HB1.out HK1.out HQ.out HG.out HK3.out hone hroom))
    · have ht : (m : Int) > 16384 - (V'.length : Int) := by omega
      have hm0 : 0 < m := by omega
      obtain rfl := R.at_ hm0
      have hn0 : 0 < n := by have := HN.out; omega
      obtain ⟨_, hS, hP⟩ := HS.out hn0
      have hSr : Src wr s o cs := hS.kb R.kb hP
      have hdl : (cs.drop k).length = m := by rw [List.length_drop]; omega
      have hone : ∀ v ∈ cs.drop k, v.oneCell' = true := fun v hv => H1.out v (List.mem_of_mem_drop hv)
      have hc0 : 0 < c := by omega
      by_cases hv0 : V'.length = 0
      · have hvz : (V'.length : Int) = 0 := by omega
        obtain rfl : V' = [] := List.eq_nil_of_length_eq_zero hv0
        have hsb : s ≠ b := fun e => hP (.inr (.inr (.inl e)))
        have hU1 : ∀ v ∈ U', v.oneCell' = true := fun v hv => HR.out.bw.one v (.inl hv)
        have hlimU : U'.length + m ≤ 1073741824 := by have := HN.out; simp at hUV; omega
        have HSr := Lib.hid hSr
        have HDL := Lib.hid hdl
        have HO := Lib.hid hone
        clear R hSr hS hdl hone hV hvi hv0
        simp only [List.length_nil] at d2 ht hvz
        go_wp2_with (first
          | (go_at_call 38; refine (available_any p q b r' U' [] _ HR.out.bw).mono ?_; rintro e w2 ⟨rfl, nd, rfl⟩)
          | (go_at_call 40; refine (buffered_any p q b r' U' [] _ (HR.out.bw.drewN nd)).mono ?_; rintro e w2 ⟨rfl, rfl⟩)
          | (go_at_call 76; refine (buf_write b m c r' U' (cs.drop k) ⟨s, o + k, none⟩ _ (HR.out.bw.drewN nd).hb hU1 HDL.out hm0 hlimU hsb ((HSr.out.drewN nd).drop k).cell HO.out).mono ?_; rintro e w2 ⟨rfl, r2, hB2, hK2, hr2⟩; have hp2 := hK2.heap (HR.out.bw.drewN nd).hp (fun e => e.elim HR.out.bw.pb (fun e => HR.out.bw.rp e.symm)); have g0 : w2.cell? ⟨p, 0, none⟩ = some .nilIface := (by rw [Lib.cell_of_heap hp2]; rfl); have k0 : w2.frozen? ⟨p, 0, none⟩ = false := Lib.frozen_of_heap hp2 0; have HB2 := Lib.hid hB2; have HK2 := Lib.hid hK2; have HR2 := Lib.hid hr2; clear hp2 hB2 hK2 hr2))
        all_goals (
          obtain ⟨hB5, hK5⟩ := (HR.out.bw.drewN nd).direct HB2.out HK2.out HR2.out HO.out
          exact rel_next HR.out m 0 (c - m) (by omega) _ (fun h => by omega) (Nat.zero_le _) hB5 (by rw [List.append_nil, List.take_of_length_le (by rw [HDL.out]; exact Nat.le_refl _)]) (((KB.refl _ wr).drewN nd).trans hK5 (fun _ _ e => e)) (by have := HR2.out; rw [drewN_heap] at this; exact this) (.inl hm0))
      · have hvz : ¬ (V'.length : Int) = 0 := by omega
        obtain ⟨cl, hcl⟩ : ∃ cl, cl = 16384 - V'.length := ⟨_, rfl⟩
        have hclm : cl < m := by omega
        have hcv : V'.length + cl = 16384 := by omega
        have HSr := Lib.hid hSr
        have HDL := Lib.hid hdl
        have HO := Lib.hid hone
        have HCL := Lib.hid hcl
        have HCV := Lib.hid hcv
        clear R hSr hS hdl hone hcl hcv
        go_wp2_with (first
          | (go_at_call 38; refine (available_any p q b r' U' V' _ HR.out.bw).mono ?_; rintro e w2 ⟨rfl, nd, rfl⟩)
          | (go_at_call 40; refine (buffered_any p q b r' U' V' _ (HR.out.bw.drewN nd)).mono ?_; rintro e w2 ⟨rfl, rfl⟩))
        obtain ⟨w1, hw1⟩ : ∃ w1, w1 = wr.drewN nd := ⟨_, rfl⟩
        rw [← hw1]
        have hB1 : BW w1 p q b r' U' V' := by rw [hw1]; exact HR.out.bw.drewN nd
        have hK1 : KB (PutS p q b r') wr w1 := by rw [hw1]; exact (KB.refl _ _).drewN nd
        obtain ⟨e0, e1, e2, e3, ef⟩ := hB1.cells
        obtain ⟨cur, hq, hcs, _⟩ := hB1.hq
        have hq' : w1.drew.heap[q]? = some (.cells cur.toList.toArray 5 (0, 0)) := by rw [Array.toArray_toList]; exact hq
        have hdl : ((cs.drop k).take cl).length = cl := by rw [List.length_take, HDL.out]; omega
        have hsrc : ∀ j v, ((cs.drop k).take cl)[j]? = some v → w1.drew.cell? ((⟨s, o + k, none⟩ : Addr).add j) = some v := by
          have hs1 : Src w1 s o cs := by rw [hw1]; exact HSr.out.drewN nd
          exact (((hs1.drewN 1).drop k).take cl).cell
        have hfit : V'.length + ((cs.drop k).take cl).length ≤ cur.toList.length := by
          have hcl2 : cur.toList.length = 16384 := by simpa using hcs
          rw [hcl2, hdl]
          have := HCV.out
          omega
        have hmin : ((cs.drop k).take cl).length = Nat.min m (16384 - V'.length) := by rw [hdl, ← HCL.out]; exact (Nat.min_eq_right (Nat.le_of_lt hclm)).symm
        have hend : 0 < ((cs.drop k).take cl).length → (if 16384 = V'.length then some (⟨q, 0, none⟩ : Addr) else some ⟨q, V'.length, none⟩) = some ⟨q, V'.length, none⟩ := by
          intro h0
          rw [hdl] at h0
          have := HCV.out
          rw [if_neg (by omega)]
        have hone : ∀ v ∈ (cs.drop k).take cl, v.oneCell' = true := fun v hv => HO.out v (List.mem_of_mem_take hv)
        have HB1 := Lib.hid hB1
        have HK1 := Lib.hid hK1
        have HQ := Lib.hid hq
        have HL := Lib.hid hdl
        clear hw1 d0 d1 d2 d3 f0 f2 hq hcs hB1 hK1 e3 ef hdl
        go_region_law (refine step_copy_kb rfl (.tmp 43) (.tmp 44) 22 22 rfl 5 Tryd.underlying22 Tryd.size5 _ _ _ _ _ _ rfl rfl q V'.length cur.toList 5 hq' ((cs.drop k).take cl) hmin (fun h0 => ⟨hend h0, _, rfl, hsrc⟩) hfit hone ?_; rw [HL.out]; intro w3 HG hK3)
        all_goals (
          have hp3 := hK3.heap (k := p) (show w1.drew.heap[p]? = _ from HB1.out.hp) HB1.out.pq
          have g2 : w3.cell? ⟨p, 2, none⟩ = some (.int .i64 V'.length) := by rw [Lib.cell_of_heap hp3]; rfl
          have k2 : w3.frozen? ⟨p, 2, none⟩ = false := Lib.frozen_of_heap hp3 2
          have HK3 := Lib.hid (((KB.refl (fun k => k = q) w1).drewN 1).trans hK3 (fun _ _ e => e))
          clear hp3 hK3
          have hcv := HCV.out
          obtain ⟨hB4, hK4⟩ := HB1.out.putCopy ((cs.drop k).take cl) cur ((V'.length : Int) + (cl : Int)) (by rw [List.length_append, HL.out]; omega) (by rw [HL.out]; omega) hone HQ.out HG.out HK3.out
          have HB4 := Lib.hid hB4
          have HK4 := Lib.hid hK4
          have hlim4 : U'.length + (V' ++ (cs.drop k).take cl).length ≤ 1073741824 := by rw [List.length_append, HL.out]; have := HN.out; omega
          have hvc : (V'.length : Int) + (cl : Int) ≤ 16384 := by omega
          clear hB4 hK4 hcv
          go_wp2_with (go_at_call 23; refine (flush_any p q b r' U' _ _ HB4.out hlim4).mono ?_; intro e w5 hfl; obtain ⟨rfl, _⟩ := id hfl; have HF := Lib.hid hfl; clear hfl)
          all_goals (
            obtain ⟨r5, hB5, hK5, hr5⟩ := HF.out.kbPut
            exact rel_next HR.out cl (m - cl) (c - cl) (by omega) _ (fun _ => by rw [Nat.add_assoc]) (by omega) hB5 (by rw [List.append_assoc]) (HK1.out.trans (HK4.out.trans hK5 (fun _ _ e => e)) (fun _ _ e => e)) (fresh_trans (KB.size (HK1.out.trans HK4.out (fun _ _ e => e))) (.inl rfl) hr5) (.inr hv0)))
end Go.Proofs.Qxb6618767aDoor
