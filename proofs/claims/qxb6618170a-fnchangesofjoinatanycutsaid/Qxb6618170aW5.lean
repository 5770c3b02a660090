import Derived.Test.Qxb6618170aW4
namespace Go.Proofs.Qxb6618170a
open Go.RowKit

theorem kp_lt (D : List Bool) : ∀ i x, x ∈ kp i D → x < i + D.length := by
  induction D with
  | nil => intro i x h; simp [kp] at h
  | cons b D ih =>
    intro i x h
    cases b with
    | false =>
      simp only [kp, List.mem_cons] at h
      rcases h with rfl | h
      · simp
      · have := ih _ _ h; simp; omega
    | true =>
      simp only [kp] at h
      have := ih _ _ h; simp; omega

theorem newC1 (w : World) (a b c d : Nat) (e : TypeId) : ∀ j u, (C4.vals ⟨a, b, c, d⟩)[j]? = some u → (w.alloc (.cells #[.int .i64 (a : Nat), .int .i64 (b : Nat), .int .i64 (c : Nat), .int .i64 (d : Nat)] e)).cell? ((⟨w.heap.size, 0, none⟩ : Addr).add j) = some u := newC w ⟨a, b, c, d⟩ e

theorem GathC.step1 {wb : World} {B : Nat} {t : TypeId} {M : List C4} {v v' : Value} {wr w2 : World} {o : Obj} {c : C4} (h : GathC wb B t M v wr) (hB : B ≤ wr.heap.size)
    (hown : w2.ownsRow B t 4 v' (M.length + 1) (flatC M ++ c.vals)) (hgr : (wr.alloc o).grownBy w2 v.ownBlock) : GathC wb B t (M ++ [c]) v' w2 :=
  ⟨by rw [flatC_append]; simpa [flatC] using hown, (h.bel.alloc hB o).grown hgr (by simp; omega) (fun k hk => (h.own.lt k hk).1)⟩

structure StG (wb : World) (B nA nB : Nat) (A C : List Nat) (t p q : Nat) (M : List C4) (v : Value) (wr : World) : Prop where
  g : GathC wb B 31 M v wr
  left : (t ≤ A.length ∧ M ++ gpN nA nB p q (A.drop t) (C.drop t) = gpN nA nB 0 0 A C) ∨ (t = A.length + 1 ∧ M = gpN nA nB 0 0 A C)
  few : M.length ≤ t
  hp : p ≤ nA + 1
  hq : q ≤ nB + 1

theorem StG.mid {wb : World} {B nA nB : Nat} {A C : List Nat} {t p q : Nat} {M : List C4} {v v' : Value} {wr wr' : World} (h : StG wb B nA nB A C t p q M v wr) (hl : A.length = C.length) (ht : t < A.length)
    (hA : ∀ x ∈ A, x < nA) (hC : ∀ x ∈ C, x < nB) (hg : GathC wb B 31 (M ++ gap p A[t] q (C[t]'(by omega))) v' wr') : StG wb B nA nB A C (t + 1) (A[t] + 1) (C[t]'(by omega) + 1) (M ++ gap p A[t] q (C[t]'(by omega))) v' wr' := by
  refine ⟨hg, .inl ⟨by omega, ?_⟩, ?_, ?_, ?_⟩
  · rcases h.left with ⟨_, h1⟩ | ⟨h1, _⟩
    · rw [List.drop_eq_getElem_cons ht, List.drop_eq_getElem_cons (show t < C.length by omega)] at h1
      simp only [gpN] at h1
      rw [List.append_assoc]; exact h1
    · omega
  · have := h.few
    simp only [List.length_append, gap]
    split <;> simp <;> omega
  · have := hA A[t] (List.getElem_mem _); omega
  · have := hC C[t] (List.getElem_mem _); omega

theorem StG.last {wb : World} {B nA nB : Nat} {A C : List Nat} {t p q : Nat} {M : List C4} {v v' : Value} {wr wr' : World} (h : StG wb B nA nB A C t p q M v wr) (hl : A.length = C.length) (ht : t = A.length)
    (hg : GathC wb B 31 (M ++ gap p nA q nB) v' wr') : StG wb B nA nB A C (t + 1) (nA + 1) (nB + 1) (M ++ gap p nA q nB) v' wr' := by
  refine ⟨hg, .inr ⟨by omega, ?_⟩, ?_, by omega, by omega⟩
  · rcases h.left with ⟨_, h1⟩ | ⟨h1, _⟩
    · rw [List.drop_eq_nil_of_le (show A.length ≤ t by omega), List.drop_eq_nil_of_le (show C.length ≤ t by omega)] at h1
      exact h1
    · omega
  · have := h.few
    simp only [List.length_append, gap]
    split <;> simp <;> omega

def RelG (wb : World) (B nA nB : Nat) (A C : List Nat) (v x y i : Value) (wr : World) : Prop := ∃ (t p q : Nat) (M : List C4), t ≤ A.length + 1 ∧ i = .int .i64 t ∧ x = .int .i64 ((p : Int) - 1) ∧ y = .int .i64 ((q : Int) - 1) ∧ StG wb B nA nB A C t p q M v wr

set_option maxRecDepth 100000 in
set_option maxHeartbeats 2000000 in
theorem gaps_any (ao bo : Option Addr) (D I : List Bool) (ac bc : Nat) (w : World) (hD : Bools w ao D) (hI : Bools w bo I) (lD : D.length ≤ 262144) (lI : I.length ≤ 262144) (hk : kept D = kept I) :
    Calls Try.prog 8 #[.slice ao D.length ac, .slice bo I.length bc] w fun e w' => GEnd w w' (gpN D.length I.length 0 0 (kp 0 D) (kp 0 I)) e := by
  obtain ⟨i0, hi, hz0, hz1, hz2⟩ := info_parts Try.info31
  have C1 := keptAt_any ao D ac w hD (by omega)
  have C2 := fun w1 (h : Bools w1 bo I) => keptAt_any bo I bc w1 h (by omega)
  rw [← hk] at C2
  obtain ⟨K, hK⟩ : ∃ K, K = kept D := ⟨_, rfl⟩
  have a1 := kp_length D 0
  have a2 := kp_length I 0
  have a3 := kept_le D
  have hA := kp_lt D 0
  have hC := kp_lt I 0
  rw [Nat.zero_add] at hA hC
  rw [← hk, ← hK] at a2
  rw [← hK] at a1 a3 C1 C2
  obtain ⟨A, eA⟩ : ∃ A, A = kp 0 D := ⟨_, rfl⟩
  obtain ⟨C, eC⟩ : ∃ C, C = kp 0 I := ⟨_, rfl⟩
  rw [← eA] at a1 hA C1 ⊢
  rw [← eC] at a2 hC C2 ⊢
  have HA : Hid (A.length = K) := a1
  have HC : Hid (C.length = K) := a2
  clear hK hk eA eC a1 a2
  go_enter Try.func8, Try.ntmps8
  go_wp2_with fail
  refine C1.mono ?_
  rintro e w1 ⟨rfl, hIA, hb1⟩
  go_wp2_with fail
  have hs1 := hb1.size
  have hsA := hIA.1
  refine (C2 w1 (hI.below hb1 hI.block)).mono ?_
  rintro e w2 ⟨rfl, hIC, hb2⟩
  have hs2 := hb2.size
  have hsC := hIC.1
  have hIA2 := hIA.below hb2 hsA
  have hbb := hb1.trans (hb2.mono (by omega))
  have S0 : StG w2 w2.heap.size D.length I.length A C 0 0 0 [] (.slice none 0 0) w2 := ⟨⟨World.ownsRow_nil _ _ _ _, Below.refl _ _⟩, .inl ⟨Nat.zero_le _, by simp⟩, by simp, by omega, by omega⟩
  clear hb1 hb2 hIA hI hD C1 C2
  go_wp2
  go_loopw [7, 8, 9, 10] (fun v x y i wr => RelG w2 w2.heap.size D.length I.length A C v x y i wr) (fun _ _ _ i _ => K + 1 - (intOf i).toNat)
  case atStart => exact ⟨0, 0, 0, [], by omega, rfl, rfl, rfl, S0⟩
  case round =>
    obtain ⟨t, p, q, M, ht, rfl, rfl, rfl, hS⟩ := hrel
    have hBr : w2.heap.size ≤ wr.heap.size := hS.g.bel.size
    have hfew := hS.few
    have hp := hS.hp
    have hq := hS.hq
    rw [HA.out] at ht
    by_cases hlt : t < K
    · have hlA : t < A.length := by rw [HA.out]; exact hlt
      have hlC : t < C.length := by rw [HC.out]; exact hlt
      have cA := (hS.g.bel.cell (p := ⟨w.heap.size, t, none⟩) (by show w.heap.size < _; omega)).trans (hIA2.2 t A[t] (by simp))
      have cC := (hS.g.bel.cell (p := ⟨w1.heap.size, t, none⟩) (by show w1.heap.size < _; omega)).trans (hIC.2 t C[t] (by simp))
      have bA := hA A[t] (List.getElem_mem _)
      have bC := hC C[t] (List.getElem_mem _)
      have hmid := fun v' wr' => hS.mid (v' := v') (wr' := wr') (by rw [HA.out, HC.out]) hlA hA hC
      obtain ⟨x, ex⟩ : ∃ x, x = A[t] := ⟨_, rfl⟩
      obtain ⟨y, ey⟩ : ∃ y, y = C[t] := ⟨_, rfl⟩
      rw [← ex] at cA bA
      rw [← ey] at cC bC
      simp only [← ex, ← ey] at hmid
      clear ex ey
      have hti : (t : Int) < (K : Int) := by omega
      have hti2 : (t : Int) ≤ (K : Int) := by omega
      by_cases hor : p < x ∨ q < y
      · have Hg : Hid (gap p x q y = [⟨p, x, q, y⟩]) := by show gap p x q y = _; unfold gap; rw [if_pos hor]
        have Hmid : Hid (∀ v' wr', GathC w2 w2.heap.size 31 (M ++ gap p x q y) v' wr' → StG w2 w2.heap.size D.length I.length A C (t + 1) (x + 1) (y + 1) (M ++ gap p x q y) v' wr') := hmid
        clear hmid
        rcases (show (p : Int) < x ∨ (¬ (p : Int) < x ∧ (q : Int) < y) by omega) with c1 | ⟨c1, c2⟩
        all_goals
          clear hor
          go_wp2_with (at_builtin; refine wpList_append_own _ rfl (.tmp 55) (.tmp 63) 25 rfl w2.heap.size 31 i0 (.agg #[.int .i64 0, .int .i64 0, .int .i64 0, .int .i64 0]) 4 32 Try.underlying25 hi hz0 hz1 hz2 rfl (by decide) _ _ _ rfl (hS.g.own.alloc _) ⟨wr.heap.size, 0, none⟩ 1 1 (C4.vals ⟨p, x, q, y⟩) rfl rfl (newC1 _ p x q y _) (oneCellC _) (by unfold maxLen; omega) (by omega) (by simp; omega) ?_)
          intro v' w3 hown2 hgrow2 _
          have hS2 := Hmid.out v' w3 (by rw [Hg.out]; exact hS.g.step1 hBr hown2 hgrow2)
          clear hown2 hgrow2
          go_wp2
          go_roundw
          case rel => exact ⟨t + 1, x + 1, y + 1, _, by rw [HA.out]; omega, by go_num, by congr 1; omega, by congr 1; omega, hS2⟩
          case measure => simp [intOf]; omega
      · have hg0 : gap p x q y = [] := by unfold gap; rw [if_neg hor]
        have hS2 := hmid u7 wr (by rw [hg0, List.append_nil]; exact hS.g)
        have c1 : ¬ (p : Int) < x := by omega
        have c2 : ¬ (q : Int) < y := by omega
        clear hmid hor hg0
        go_wp2
        go_roundw
        case rel => exact ⟨t + 1, x + 1, y + 1, _, by rw [HA.out]; omega, by go_num, by congr 1; omega, by congr 1; omega, hS2⟩
        case measure => simp [intOf]; omega
    · by_cases hle : t = K
      · have hti : ¬ (t : Int) < (K : Int) := by omega
        have hti2 : (t : Int) ≤ (K : Int) := by omega
        have hlast := fun v' wr' => hS.last (v' := v') (wr' := wr') (by rw [HA.out, HC.out]) (by rw [HA.out]; exact hle)
        have HK : Hid (t = K) := hle
        clear hle
        by_cases hor : p < D.length ∨ q < I.length
        · have Hg : Hid (gap p D.length q I.length = [⟨p, D.length, q, I.length⟩]) := by show gap _ _ _ _ = _; unfold gap; rw [if_pos hor]
          have Hlast : Hid (∀ v' wr', GathC w2 w2.heap.size 31 (M ++ gap p D.length q I.length) v' wr' → StG w2 w2.heap.size D.length I.length A C (t + 1) (D.length + 1) (I.length + 1) (M ++ gap p D.length q I.length) v' wr') := hlast
          clear hlast
          rcases (show (p : Int) < D.length ∨ (¬ (p : Int) < D.length ∧ (q : Int) < I.length) by omega) with c1 | ⟨c1, c2⟩
          all_goals
            clear hor
            go_wp2_with (at_builtin; refine wpList_append_own _ rfl (.tmp 55) (.tmp 63) 25 rfl w2.heap.size 31 i0 (.agg #[.int .i64 0, .int .i64 0, .int .i64 0, .int .i64 0]) 4 32 Try.underlying25 hi hz0 hz1 hz2 rfl (by decide) _ _ _ rfl (hS.g.own.alloc _) ⟨wr.heap.size, 0, none⟩ 1 1 (C4.vals ⟨p, D.length, q, I.length⟩) rfl rfl (newC1 _ p D.length q I.length _) (oneCellC _) (by unfold maxLen; omega) (by omega) (by simp; omega) ?_)
            intro v' w3 hown2 hgrow2 _
            have hS2 := Hlast.out v' w3 (by rw [Hg.out]; exact hS.g.step1 hBr hown2 hgrow2)
            clear hown2 hgrow2
            go_wp2
            go_roundw
            case rel => exact ⟨t + 1, D.length + 1, I.length + 1, _, by rw [HA.out]; omega, by go_num, by congr 1; omega, by congr 1; omega, hS2⟩
            case measure => simp [intOf]; omega
        · have hg0 : gap p D.length q I.length = [] := by unfold gap; rw [if_neg hor]
          have hS2 := hlast u7 wr (by rw [hg0, List.append_nil]; exact hS.g)
          have c1 : ¬ (p : Int) < D.length := by omega
          have c2 : ¬ (q : Int) < I.length := by omega
          clear hlast hor hg0
          go_wp2
          go_roundw
          case rel => exact ⟨t + 1, D.length + 1, I.length + 1, _, by rw [HA.out]; omega, by go_num, by congr 1; omega, by congr 1; omega, hS2⟩
          case measure => simp [intOf]; omega
      · obtain rfl : t = K + 1 := by omega
        have hti2 : ¬ ((K + 1 : Nat) : Int) ≤ (K : Int) := by omega
        have hl := hS.left
        have G := hS.g
        rw [HA.out] at hl
        have HM : Hid (M = gpN D.length I.length 0 0 A C) := by
          rcases hl with ⟨h, _⟩ | ⟨_, h⟩
          · omega
          · exact h
        clear hl
        go_wp2
        go_ret
        rw [← HM.out]
        exact ⟨u7, rfl, G.own.mono' (by omega), hbb.trans (G.bel.mono (by omega))⟩
end Go.Proofs.Qxb6618170a
