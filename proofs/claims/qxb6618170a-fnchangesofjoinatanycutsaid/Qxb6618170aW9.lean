import Derived.Test.Qxb6618170aW8
namespace Go.Proofs.Qxb6618170a
open Go.RowKit

theorem newCI (w : World) (c : C4) (u0 u1 u2 u3 : Int) (e : TypeId) (h0 : u0 = (c.a : Nat)) (h1 : u1 = (c.b : Nat)) (h2 : u2 = (c.c : Nat)) (h3 : u3 = (c.d : Nat)) :
    ∀ j u, c.vals[j]? = some u → (w.alloc (.cells #[.int .i64 u0, .int .i64 u1, .int .i64 u2, .int .i64 u3] e)).cell? ((⟨w.heap.size, 0, none⟩ : Addr).add j) = some u := by
  subst h0 h1 h2 h3
  exact newC w c e
theorem newCI2 (w : World) (o : Obj) (c : C4) (u0 u1 u2 u3 : Int) (e : TypeId) (h0 : u0 = (c.a : Nat)) (h1 : u1 = (c.b : Nat)) (h2 : u2 = (c.c : Nat)) (h3 : u3 = (c.d : Nat)) :
    ∀ j u, c.vals[j]? = some u → ((w.alloc o).alloc (.cells #[.int .i64 u0, .int .i64 u1, .int .i64 u2, .int .i64 u3] e)).cell? ((⟨w.heap.size + 1, 0, none⟩ : Addr).add j) = some u := by
  subst h0 h1 h2 h3
  exact newC2 w o c e

theorem J_last (n m : Nat) (F : List C4) (l h : C4) (S : List C4) : J n m (F ++ [l]) (h :: S) = if l.b = n ∧ l.d = m ∧ h.a = n ∧ h.c = m then F ++ [⟨l.a, h.b, l.c, h.d⟩] ++ S else F ++ [l] ++ h :: S := by simp [J]

def RelJ1 (w : World) (g N : Nat) (F : List C4) (v i : Value) (wr : World) : Prop := ∃ k : Nat, k ≤ F.length ∧ i = .int .i64 k ∧ v = .slice (some ⟨g, 0, none⟩) k N ∧ GathN w w.heap.size g N (F.take k) wr

def CutJ (w : World) (g N n m : Nat) (F S : List C4) (s : Value) (wc : World) : Prop :=
  ∃ (st : Nat) (pre : List C4), s = .int .i64 st ∧ st ≤ S.length ∧ pre.length = F.length ∧ J n m F (S.map (shift n m)) = pre ++ (S.map (shift n m)).drop st ∧ GathN w w.heap.size g N pre wc

def CutK (wr : World) (B0 : Bool) (s : Value) (wx : World) : Prop := s = .bool B0 ∧ wx = wr

def RelJ2 (w : World) (g N L st : Nat) (pre T : List C4) (v i : Value) (wr : World) : Prop :=
  ∃ k : Nat, st ≤ k ∧ k ≤ T.length ∧ i = .int .i64 k ∧ v = .slice (some ⟨g, 0, none⟩) (L + (k - st)) N ∧ GathN w w.heap.size g N (pre ++ (T.drop st).take (k - st)) wr

theorem take_drop_snoc {α : Type} (T : List α) (st k : Nat) (h1 : st ≤ k) (h2 : k < T.length) : (T.drop st).take (k + 1 - st) = (T.drop st).take (k - st) ++ [T[k]] := by
  rw [show k + 1 - st = (k - st) + 1 by omega, take_snoc (T.drop st) (k - st) (by simp; omega)]
  congr 2
  rw [List.getElem_drop]
  congr 1
  omega

set_option maxRecDepth 100000 in
set_option maxHeartbeats 3000000 in
theorem joinChanges_any (ao bo : Option Addr) (F S : List C4) (ac bc n m : Nat) (w : World) (hF : Chs w ao F) (hS : Chs w bo S) (lF : F.length ≤ 262144) (lS : S.length ≤ 262144) (hn : n ≤ 262144) (hm : m ≤ 262144)
    (bF : ∀ c ∈ F, c.a ≤ 262144 ∧ c.b ≤ 262144 ∧ c.c ≤ 262144 ∧ c.d ≤ 262144) (bS : ∀ c ∈ S, c.a ≤ 262144 ∧ c.b ≤ 262144 ∧ c.c ≤ 262144 ∧ c.d ≤ 262144) :
    Calls Try.prog 12 #[.slice ao F.length ac, .slice bo S.length bc, .int .i64 n, .int .i64 m] w fun e w' => GEnd w w' (J n m F (S.map (shift n m))) e := by
  obtain ⟨i0, hi, hz0, hz1, hz2⟩ := info_parts Try.info31
  obtain ⟨N, hN⟩ : ∃ N, F.length + S.length = N := ⟨_, rfl⟩
  have HN : Hid (F.length + S.length = N) := hN
  have hN1 : F.length ≤ N := by omega
  have hN2 : N ≤ 524288 := by omega
  have hNi : (F.length : Int) + (S.length : Int) ≤ 524288 := by omega
  clear hN
  go_enter Try.func12, Try.ntmps12
  go_wp2_with (at_make; refine wpList_make_own _ rfl _ _ 25 rfl w.heap.size 31 i0 _ 4 Try.underlying25 hi hz0 hz1 _ _ _ N rfl rfl (by have := HN.out; omega) (by rw [hz2]; omega) (by unfold maxLen; omega) (Nat.le_refl _) ?_)
  intro w1 hown hgrow
  have G0 : GathN w w.heap.size w.heap.size N [] w1 := ⟨by simpa [flatC] using hown, (Below.refl _ _).grown hgrow (Nat.le_refl _) (fun _ h => by cases h)⟩
  clear hown hgrow
  go_wp2
  go_loopw [9, 10] (fun v i wr => RelJ1 w w.heap.size N F v i wr) (fun _ i _ => F.length - (intOf i).toNat)
  case atStart => exact ⟨0, Nat.zero_le _, rfl, rfl, by simpa using G0⟩
  case round =>
    obtain ⟨k, hk, rfl, rfl, hG⟩ := hrel
    have hBr : w.heap.size ≤ wr.heap.size := hG.bel.size
    by_cases hlt : k < F.length
    · obtain h | ⟨b, rfl, hb, hc⟩ := hF
      · simp [h] at hlt
      obtain ⟨c0, c1, c2, c3⟩ := (hc k F[k] (by simp)).below hG.bel hb
      have hlt' : (k : Int) < (F.length : Int) := by omega
      have HT : Hid (F.take (k + 1) = F.take k ++ [F[k]]) := take_snoc F k hlt
      have HL : Hid ((F.take k).length = k) := by show _ = _; simp; omega
      have hown := hG.own
      rw [HL.out] at hown
      have hroom : k + 1 ≤ N := by omega
      go_wp2_with (at_builtin; refine wpList_append_fits _ rfl (.tmp 28) (.tmp 33) 25 rfl w.heap.size 31 i0 4 Try.underlying25 hi hz1 w.heap.size k N (flatC (F.take k)) rfl (hown.alloc _) ⟨wr.heap.size, 0, none⟩ 1 1 (C4.vals F[k]) rfl rfl (newC _ F[k] _) (oneCellC _) hroom ?_)
      intro w2 hown2 hgrow2
      have hG2 : GathN w w.heap.size w.heap.size N (F.take (k + 1)) w2 := by
        rw [HT.out]
        exact hG.step hBr (Nat.le_refl _) (by rw [HL.out]; exact hown2) hgrow2
      clear hown2 hgrow2 hown c0 c1 c2 c3
      go_wp2
      go_roundw
      case rel => exact ⟨k + 1, by omega, by go_num, rfl, hG2⟩
      case measure => simp [intOf]; omega
    · obtain rfl : k = F.length := by omega
      have G1 := hG
      rw [List.take_of_length_le (Nat.le_refl _)] at G1
      clear hG
      obtain ⟨B0, hB0⟩ : ∃ B0, B0 = decide (0 < F.length ∧ 0 < S.length) := ⟨_, rfl⟩
      have HB0 : Hid (B0 = decide (0 < F.length ∧ 0 < S.length)) := hB0
      clear hB0
      go_upto_region 7 with fail
      go_cut [42] (fun s42 wx => CutK wr B0 s42 wx)
      case first =>
        by_cases hF0 : F.length = 0
        · have hi1 : ¬ (0 : Int) < (F.length : Int) := by omega
          have HB1 : Hid (B0 = false) := HB0.out.trans (decide_eq_false (by omega))
          clear hF0
          go_wp2
          go_meet
          case rel => exact ⟨by rw [HB1.out], rfl⟩
        by_cases hS0 : S.length = 0
        · have hi2 : ¬ (0 : Int) < (S.length : Int) := by omega
          have hi1 : (0 : Int) < (F.length : Int) := by omega
          have HB1 : Hid (B0 = false) := HB0.out.trans (decide_eq_false (by omega))
          clear hF0 hS0
          go_wp2
          go_meet
          case rel => exact ⟨by rw [HB1.out]; exact congrArg Value.bool (decide_eq_false (by omega)), rfl⟩
        have hi2 : (0 : Int) < (S.length : Int) := by omega
        have hi1 : (0 : Int) < (F.length : Int) := by omega
        have HB1 : Hid (B0 = true) := HB0.out.trans (decide_eq_true (by omega))
        clear hF0 hS0
        go_wp2
        go_meet
        case rel => exact ⟨by rw [HB1.out]; exact congrArg Value.bool (decide_eq_true (by omega)), rfl⟩
      case rest =>
       obtain ⟨rfl, rfl⟩ := hcut
       go_upto_if 42 with fail
       go_cut [11] (fun s11 wc => CutJ w w.heap.size N n m F S s11 wc)
       case first =>
        cases B0 with
        | false =>
         have HJ0 : Hid (J n m F (S.map (shift n m)) = F ++ (S.map (shift n m)).drop 0) := by
           show _ = _
           have hno := HB0.out
           rcases Nat.eq_zero_or_pos F.length with h0 | h0
           · rw [List.eq_nil_of_length_eq_zero h0, J_nilL]; rfl
           · rcases Nat.eq_zero_or_pos S.length with h1 | h1
             · rw [List.eq_nil_of_length_eq_zero h1]; simp [J_nilR]
             · simp [h0, h1] at hno
         go_wp2
         go_meet
         case rel => exact ⟨0, F, rfl, Nat.zero_le _, rfl, HJ0.out, G1⟩
        | true =>
         have hno := HB0.out
         have hF0 : ¬ F.length = 0 := by intro h0; simp [h0] at hno
         have hS0 : ¬ S.length = 0 := by intro h0; simp [h0] at hno
         clear hno
         obtain h | ⟨b, rfl, hb, hc⟩ := hF
         · simp [h] at hF0
         obtain h | ⟨b', rfl, hb', hc'⟩ := hS
         · simp [h] at hS0
         have hlF : F.length - 1 < F.length := by omega
         have hlS : 0 < S.length := by omega
         obtain ⟨l, el⟩ : ∃ l, l = F[F.length - 1] := ⟨_, rfl⟩
         obtain ⟨h, eh⟩ : ∃ h, h = S[0] := ⟨_, rfl⟩
         obtain ⟨c0, c1, c2, c3⟩ := (hc (F.length - 1) l (by rw [el]; simp [hlF])).below G1.bel hb
         obtain ⟨d0, d1, d2, d3⟩ := (hc' 0 h (by rw [eh]; simp [hlS])).below G1.bel hb'
         simp only [Nat.zero_mul, Nat.zero_add] at d0 d1 d2 d3
         have hbw := Nat.lt_of_lt_of_le hb' hBr
         obtain ⟨x0, x1, x2, x3⟩ := bF l (by rw [el]; exact List.getElem_mem _)
         obtain ⟨y0, y1, y2, y3⟩ := bS h (by rw [eh]; exact List.getElem_mem _)
         have HFs : Hid (F = F.take (F.length - 1) ++ [l]) := by
           show F = _
           have := take_snoc F (F.length - 1) hlF
           rw [show F.length - 1 + 1 = F.length by omega, List.take_of_length_le (Nat.le_refl _), ← el] at this
           exact this
         have HSs : Hid (S = h :: S.drop 1) := by
           show S = _
           rw [eh]
           exact List.drop_eq_getElem_cons hlS
         have ht := ((G1.alloc hBr (.cells #[.int .i64 (l.a : Nat), .int .i64 (l.b : Nat), .int .i64 (l.c : Nat), .int .i64 (l.d : Nat)] 31)).alloc (by simp; omega) (.cells #[.int .i64 (h.a : Nat), .int .i64 (h.b : Nat), .int .i64 (h.c : Nat), .int .i64 (h.d : Nat)] 31))
         have Hlk : Hid ((F.take (F.length - 1)).length = F.length - 1) := by show _ = _; simp
         have hthere := ht.there (F.length - 1) hlF
         clear el eh hF0 hS0 hc hc'
         have i1 : (0 : Int) < (F.length : Int) := by omega
         have i2 : (0 : Int) < (S.length : Int) := by omega
         have i3 : (0 : Int) ≤ (F.length : Int) - 1 := by omega
         have i4 : (F.length : Int) - 1 < (F.length : Int) := by omega
         have i5 : ((F.length : Int) - 1).toNat = F.length - 1 := by omega
         have i6 : (1 : Int) ≤ (F.length : Int) := by omega
         go_upto_region 10 with fail
         obtain ⟨wq, hwq⟩ : ∃ wq, wq = (wc.alloc (.cells #[.int .i64 (l.a : Nat), .int .i64 (l.b : Nat), .int .i64 (l.c : Nat), .int .i64 (l.d : Nat)] 31)).alloc (.cells #[.int .i64 (h.a : Nat), .int .i64 (h.b : Nat), .int .i64 (h.c : Nat), .int .i64 (h.d : Nat)] 31) := ⟨_, rfl⟩
         rw [← hwq] at ht hthere ⊢
         have q0 : wq.cell? ⟨wc.heap.size, 0, none⟩ = some (.int .i64 (l.a : Nat)) := by rw [hwq]; simp
         have q1 : wq.cell? ⟨wc.heap.size, 1, none⟩ = some (.int .i64 (l.b : Nat)) := by rw [hwq]; simp
         have q2 : wq.cell? ⟨wc.heap.size, 2, none⟩ = some (.int .i64 (l.c : Nat)) := by rw [hwq]; simp
         have q3 : wq.cell? ⟨wc.heap.size, 3, none⟩ = some (.int .i64 (l.d : Nat)) := by rw [hwq]; simp
         have r0 : wq.cell? ⟨wc.heap.size + 1, 0, none⟩ = some (.int .i64 (h.a : Nat)) := by rw [hwq]; simp
         have r1 : wq.cell? ⟨wc.heap.size + 1, 1, none⟩ = some (.int .i64 (h.b : Nat)) := by rw [hwq]; simp
         have r2 : wq.cell? ⟨wc.heap.size + 1, 2, none⟩ = some (.int .i64 (h.c : Nat)) := by rw [hwq]; simp
         have r3 : wq.cell? ⟨wc.heap.size + 1, 3, none⟩ = some (.int .i64 (h.d : Nat)) := by rw [hwq]; simp
         have hBq : w.heap.size ≤ wq.heap.size := ht.bel.size
         clear hwq c0 c1 c2 c3 d0 d1 d2 d3
         have HJ : ∀ (pre : List C4), Hid (pre = F) → ¬ (l.b = n ∧ l.d = m ∧ h.a = 0 ∧ h.c = 0) → J n m F (S.map (shift n m)) = pre ++ (S.map (shift n m)).drop 0 := by
           intro pre hp hno
           rw [hp.out, List.drop_zero]
           rw [HSs.out, List.map_cons]
           rw [HFs.out, J_last, if_neg (by simp only [shift]; omega)]
         by_cases e1 : (l.b : Int) = (n : Int)
         · by_cases e2 : (l.d : Int) = (m : Int)
           · by_cases e3 : (h.a : Int) = 0
             · by_cases e4 : (h.c : Int) = 0
               · have HY : Hid (l.b = n ∧ l.d = m ∧ h.a = 0 ∧ h.c = 0) := by show _ ∧ _; omega
                 have ht2 := ht
                 rw [HFs.out] at ht2
                 have hset := ht2.set (c := ⟨l.a, n + h.b, l.c, m + h.d⟩) (Nat.le_refl _) hBq
                 rw [Hlk.out] at hset
                 have HJ1 : Hid (J n m F (S.map (shift n m)) = (F.take (F.length - 1) ++ [⟨l.a, n + h.b, l.c, m + h.d⟩]) ++ (S.map (shift n m)).drop 1) := by
                   show _ = _
                   rw [HSs.out, List.map_cons, List.drop_succ_cons, List.drop_zero]
                   conv => lhs; rw [HFs.out]
                   rw [J_last, if_pos (by have := HY.out; simp only [shift]; omega)]
                   simp [shift]
                 have Hpl : Hid ((F.take (F.length - 1) ++ [(⟨l.a, n + h.b, l.c, m + h.d⟩ : C4)]).length = F.length) := by show _ = _; rw [List.length_append, Hlk.out]; simp; omega
                 clear HJ ht ht2
                 go_wp2_with ((with_reducible refine wpList_store_c ⟨l.a, n + h.b, l.c, m + h.d⟩ 31 Try.size31 (.tmp 89) (.tmp 88) w.heap.size ((F.length - 1) * 4) ?_ ?_ ?_ ?_ ?_ ?_); rfl; rfl; rfl; rfl; exact hthere)
                 go_meet
                 case rel => exact ⟨1, _, rfl, hlS, Hpl.out, HJ1.out, hset⟩
               · have HN4 : Hid (¬ (l.b = n ∧ l.d = m ∧ h.a = 0 ∧ h.c = 0)) := by show ¬ _; omega
                 go_wp2
                 go_meet
                 case rel => exact ⟨0, F, rfl, Nat.zero_le _, rfl, HJ F rfl HN4.out, ht⟩
             · have HN4 : Hid (¬ (l.b = n ∧ l.d = m ∧ h.a = 0 ∧ h.c = 0)) := by show ¬ _; omega
               go_wp2
               go_meet
               case rel => exact ⟨0, F, rfl, Nat.zero_le _, rfl, HJ F rfl HN4.out, ht⟩
           · have HN4 : Hid (¬ (l.b = n ∧ l.d = m ∧ h.a = 0 ∧ h.c = 0)) := by show ¬ _; omega
             go_wp2
             go_meet
             case rel => exact ⟨0, F, rfl, Nat.zero_le _, rfl, HJ F rfl HN4.out, ht⟩
         · have HN4 : Hid (¬ (l.b = n ∧ l.d = m ∧ h.a = 0 ∧ h.c = 0)) := by show ¬ _; omega
           go_wp2
           go_meet
           case rel => exact ⟨0, F, rfl, Nat.zero_le _, rfl, HJ F rfl HN4.out, ht⟩
       case rest =>
         obtain ⟨st, pre, rfl, hst, hpl, hJ, hG⟩ := hcut
         have HJ : Hid (J n m F (S.map (shift n m)) = pre ++ (S.map (shift n m)).drop st) := hJ
         have HP : Hid (pre.length = F.length) := hpl
         have HTL : Hid ((S.map (shift n m)).length = S.length) := by show _ = _; simp
         clear hJ hpl
         go_wp2
         go_loopw [9, 14] (fun v i wr => RelJ2 w w.heap.size N F.length st pre (S.map (shift n m)) v i wr) (fun _ i _ => S.length - (intOf i).toNat)
         case atStart => exact ⟨st, Nat.le_refl _, by rw [HTL.out]; exact hst, rfl, by simp, by simpa using hG⟩
         case round =>
           obtain ⟨k, hk1, hk2, rfl, rfl, hG⟩ := hrel
           rw [HTL.out] at hk2
           have hBr : w.heap.size ≤ wr.heap.size := hG.bel.size
           by_cases hlt : k < S.length
           · obtain h | ⟨b, rfl, hb, hc⟩ := hS
             · simp [h] at hlt
             obtain ⟨c0, c1, c2, c3⟩ := (hc k S[k] (by simp)).below hG.bel hb
             obtain ⟨y0, y1, y2, y3⟩ := bS S[k] (List.getElem_mem _)
             have hlt' : (k : Int) < (S.length : Int) := by omega
             have HT : Hid (((S.map (shift n m)).drop st).take (k + 1 - st) = ((S.map (shift n m)).drop st).take (k - st) ++ [shift n m S[k]]) := by
               show _ = _
               rw [take_drop_snoc _ st k hk1 (by rw [HTL.out]; exact hlt), List.getElem_map]
             have HL : Hid ((pre ++ ((S.map (shift n m)).drop st).take (k - st)).length = F.length + (k - st)) := by
               show _ = _
               have := HP.out
               simp; omega
             have hown := hG.own
             rw [HL.out] at hown
             have hroom : F.length + (k - st) + 1 ≤ N := by have := HN.out; omega
             obtain ⟨X, hX⟩ : ∃ X, X = pre ++ ((S.map (shift n m)).drop st).take (k - st) := ⟨_, rfl⟩
             have HX : Hid (X = pre ++ ((S.map (shift n m)).drop st).take (k - st)) := hX
             rw [← hX] at hown
             clear hX
             go_wp2_with (at_builtin; refine wpList_append_fits _ rfl (.tmp 101) (.tmp 119) 25 rfl w.heap.size 31 i0 4 Try.underlying25 hi hz1 w.heap.size (F.length + (k - st)) N (flatC X) rfl ((hown.alloc _).alloc _) ⟨wr.heap.size + 1, 0, none⟩ 1 1 (C4.vals (shift n m S[k])) rfl rfl (newCI2 _ _ (shift n m S[k]) _ _ _ _ _ (by simp only [shift]; omega) (by simp only [shift]; omega) (by simp only [shift]; omega) (by simp only [shift]; omega)) (oneCellC _) hroom ?_)
             intro w2 hown2 hgrow2
             have hG2 : GathN w w.heap.size w.heap.size N (pre ++ ((S.map (shift n m)).drop st).take (k + 1 - st)) w2 := by
               rw [HT.out, ← List.append_assoc]
               exact hG.step2 hBr (Nat.le_refl _) (by rw [HL.out, ← HX.out]; exact hown2) hgrow2
             have HE : Hid (F.length + (k - st) + 1 = F.length + (k + 1 - st)) := by show _ = _; omega
             clear hown2 hgrow2 hown c0 c1 c2 c3
             go_wp2
             go_roundw
             case rel => exact ⟨k + 1, by omega, by rw [HTL.out]; omega, by go_num, by rw [← HE.out], hG2⟩
             case measure => simp [intOf]; omega
           · obtain rfl : k = S.length := by omega
             have HE : Hid (J n m F (S.map (shift n m)) = pre ++ ((S.map (shift n m)).drop st).take (S.length - st)) := by
               show _ = _
               rw [HJ.out, List.take_of_length_le (by simp)]
             have HL : Hid ((pre ++ ((S.map (shift n m)).drop st).take (S.length - st)).length = F.length + (S.length - st)) := by
               show _ = _
               have := HP.out
               simp; omega
             go_wp2
             go_ret
             refine ⟨_, rfl, ?_⟩
             rw [HE.out]
             exact ⟨by have := hG.own; rw [HL.out] at this ⊢; exact this, hG.bel⟩
end Go.Proofs.Qxb6618170a
