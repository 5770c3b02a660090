import Derived.Test.Qxb6618767aDoorJ
import Derived.Test.Qxb6618767aDoorM4
import Derived.Test.Qxb6618767aDoorI7
namespace Go.Proofs.Qxb6618767aDoor
open Go.RowKit

set_option maxHeartbeats 400000 in
theorem bytes7_yes (sp : Option Addr) (n cap : Nat) (w : World) (h : n ≤ 1048576) :
    Calls Tryd.prog 7 #[.slice sp n cap] w fun e w' => e = .returned (.bool true) ∧ w' = w := by
  have h1 : ¬ ((n : Int) > 1048576) := by omega
  go_enter Tryd.func7, Tryd.ntmps7
  go_wp2
  go_ret
  exact ⟨rfl, rfl⟩

set_option maxHeartbeats 400000 in
theorem bytes7_no (sp : Option Addr) (n cap : Nat) (w : World) (h : 1048576 < n) :
    Calls Tryd.prog 7 #[.slice sp n cap] w fun e w' => e = .returned (.bool false) ∧ w' = w := by
  have h1 : (n : Int) > 1048576 := by omega
  go_enter Tryd.func7, Tryd.ntmps7
  go_wp2
  go_ret
  exact ⟨rfl, rfl⟩

set_option maxHeartbeats 400000 in
theorem law3_long (sp : Option Addr) (n cap : Nat) (w : World) (h : 1048576 < n) :
    Calls Tryd.prog 3 #[.slice sp n cap] w fun e w' => TrueBelow w e w' := by
  go_enter Tryd.func3, Tryd.ntmps3
  go_wp2_with (go_at_call 7; refine (bytes7_no sp n cap _ h).mono ?_; rintro e w2 ⟨rfl, rfl⟩)
  go_ret
  exact ⟨rfl, Below.refl _ _⟩

/-- What the walk knows when the reply is written. -/
structure All3 (w w3 : World) (cs : List Value) (n d A ga g3 : Nat) (sp : Option Addr) : Prop where
  kb : KB (fun _ => False) w w3
  la : cs.length = n
  ua : U8 cs
  dA : Lib.nDigits n = d
  A_ : n + d + 5 = A
  n20 : n ≤ 1048576
  ha : 0 < n → sp = some ⟨ga, 0, none⟩ ∧ Src w3 ga 0 cs
  h3 : Src w3 g3 0 (bulk cs)

theorem All3.d7 {w w3 : World} {cs : List Value} {n d A ga g3 : Nat} {sp : Option Addr} (h : All3 w w3 cs n d A ga g3 sp) : 1 ≤ d ∧ d ≤ 7 := by
  have h1 := Lib.nDigits_pos n
  have h2 := nDigits_le 6 n (by have := h.n20; omega)
  rw [h.dA] at h1 h2
  exact ⟨h1, h2⟩

theorem All3.cell {w w3 : World} {cs : List Value} {n d A ga g3 : Nat} {sp : Option Addr} (h : All3 w w3 cs n d A ga g3 sp) (j : Nat) (v : Value) (hj : (bulk cs)[j]? = some v) : w3.cell? ⟨g3, j, none⟩ = some v := by
  have := h.h3.cell j v hj
  rwa [Lib.addr_add, Nat.zero_add] at this

theorem All3.dig {w w3 : World} {cs : List Value} {n d A ga g3 : Nat} {sp : Option Addr} (h : All3 w w3 cs n d A ga g3 sp) (t : Nat) (ht : t < d) : w3.cell? ⟨g3, 1 + t, none⟩ = some (.int .u8 (48 + (dgt n d t : Int))) := by
  have := h.cell (1 + t) _ ((bulk_cells cs n d h.la h.dA).2.1 t ht)
  rw [this, Int.natCast_add]
  rfl

theorem All3.twice {w w3 : World} {cs : List Value} {n d A ga g3 : Nat} {sp : Option Addr} (h : All3 w w3 cs n d A ga g3 sp) (c : Nat) (hc : n + 2 ≤ c) :
    Calls Tryd.prog 10 #[.slice (some ⟨g3, 1 + d + 2, none⟩) (n + 2) c, .int .i64 n, .int .i64 2] w3 fun e w' => TwiceOut w3 n (cs ++ crlf) e w' := by
  have hl : (cs ++ crlf).length = n + 2 := by rw [List.length_append, h.la]; rfl
  have hsrc := h.h3.drop (d + 3)
  rw [(bulk_cells cs n d h.la h.dA).2.2.2.2, Nat.zero_add] at hsrc
  have e : d + 3 = 1 + d + 2 := by omega
  rw [e] at hsrc
  have hb : B8 (cs ++ crlf) := by
    intro v hv
    rcases List.mem_append.1 hv with hv | hv
    · exact h.ua v hv
    · simp only [crlf, List.mem_cons, List.not_mem_nil, or_false] at hv
      rcases hv with rfl | rfl
      · exact ⟨_, rfl⟩
      · exact ⟨_, rfl⟩
  have := twice_any g3 (1 + d + 2) c n (cs ++ crlf) w3 (by rw [hl]; exact hc) hsrc hb hl h.n20
  rw [hl] at this
  exact this

/-- What the walk knows when the reply is read back. -/
structure Back (w w4 : World) (cs : List Value) (n ga g1 g2 : Nat) (sp : Option Addr) : Prop where
  kb : KB (fun _ => False) w w4
  s1 : Src w4 g1 0 cs
  ha : 0 < n → sp = some ⟨ga, 0, none⟩ ∧ Src w4 ga 0 cs
  c0 : w4.cell? ⟨g2, 0, none⟩ = some (.int .u8 13)
  c1 : w4.cell? ⟨g2, 1, none⟩ = some (.int .u8 10)

theorem All3.back {w w3 w4 : World} {cs : List Value} {n d A ga g3 g1 g2 : Nat} {sp : Option Addr} (h : All3 w w3 cs n d A ga g3 sp) (hs1 : Src w4 g1 0 ((cs ++ crlf).take n)) (hs2 : Src w4 g2 0 (((cs ++ crlf).drop n).take 2)) (hK : KB (fun _ => False) w3 w4) : Back w w4 cs n ga g1 g2 sp := by
  have e1 : (cs ++ crlf).take n = cs := by rw [← h.la, List.take_left]
  have e2 : ((cs ++ crlf).drop n).take 2 = crlf := by rw [← h.la, List.drop_left]; rfl
  rw [e1] at hs1
  rw [e2] at hs2
  refine ⟨h.kb.ftrans hK, hs1, fun x => ⟨(h.ha x).1, (h.ha x).2.kb hK id⟩, ?_, ?_⟩
  · have := hs2.cell 0 (.int .u8 13) rfl
    rwa [Lib.addr_add] at this
  · have := hs2.cell 1 (.int .u8 10) rfl
    rwa [Lib.addr_add] at this

def RelK (d : Nat) (v4 : Value) : Prop := ∃ t : Nat, t ≤ d ∧ v4 = .int .i64 (1 + t : Nat)
def RelV (n d : Nat) (v5 v6 : Value) : Prop := ∃ t : Nat, t ≤ d ∧ v6 = .int .i64 (1 + t : Nat) ∧ v5 = .int .i64 (pref n d t : Nat)

set_option maxHeartbeats 8000000 in
set_option maxRecDepth 100000 in
theorem law3_main (cs : List Value) (sp : Option Addr) (n cap : Nat) (w : World) (hn2 : n ≤ 1048576) (hn : cs.length = n) (hu : U8 cs) (hnil : sp = none → n = 0) (hs : ∀ a, sp = some a → ∀ j v, cs[j]? = some v → w.cell? (a.add j) = some v)
    (htab : Lib.TabIs Tryd.prog w pow10Name .u64 Lib.pow10Tab) :
    Calls Tryd.prog 3 #[.slice sp n cap] w fun e w' => TrueBelow w e w' := by
  have HN := Lib.hid hn
  have HU := Lib.hid hu
  have Hn := Lib.hid hnil
  have HS := Lib.hid hs
  have HT := Lib.hid (Lib.tabBelow_of_tabIs htab)
  have t1 : ¬ ((n : Int) > 1048576) := by omega
  clear hn hu hnil hs htab
  go_enter Tryd.func3, Tryd.ntmps3
  go_wp2_with (first
    | (go_at_call 7; refine (bytes7_yes sp n cap _ hn2).mono ?_; rintro e w0 ⟨rfl, hw0⟩; rw [hw0]; clear hw0 w0)
    | (go_at_call 8; refine (clone_any sp n cap cs _ HN.out hn2 HU.out.one Hn.out HS.out).mono ?_; rintro e w1 ⟨sp', cap', ga, rfl, hcap', hsa, hK1⟩; have HSA := Lib.hid hsa; have HK1 := Lib.hid hK1; clear hsa hK1))
  go_at_call 9
  refine (bulkOut_any cs ga 0 sp' n cap' _ HN.out hcap' hn2 HU.out.one HSA.out (HK1.out.ftab HT.out)).mono ?_
  rintro e w3 ⟨g3, cap3, rfl, hcap3, _, hs3, hK3⟩
  obtain ⟨d, hd⟩ : ∃ d, d = Lib.nDigits n := ⟨_, rfl⟩
  obtain ⟨A, hA⟩ : ∃ A, A = n + d + 5 := ⟨_, rfl⟩
  have lA : (bulk cs).length = A := by rw [bulk_len, HN.out, ← hd, hA]
  rw [lA] at hcap3 ⊢
  have HALL : Hid (All3 w w3 cs n d A ga g3 sp') := Lib.hid ⟨HK1.out.ftrans hK3, HN.out, HU.out, hd.symm, hA.symm, hn2, fun h => ⟨(HSA.out h).1, (HSA.out h).2.kb hK3 id⟩, hs3⟩
  obtain ⟨hd1, hd7⟩ := HALL.out.d7
  obtain ⟨b0, _, b1, b2, b3⟩ := bulk_cells cs n d HN.out hd.symm
  have c0 := HALL.out.cell 0 _ b0
  have c13 := HALL.out.cell (1 + d) _ b1
  have c10 := HALL.out.cell (2 + d) _ b2
  have HA := Lib.hid hA
  have iA : (A : Int) ≤ 1048595 := by omega
  have iA2 : (d : Int) + 5 ≤ (A : Int) := by omega
  have ib0 : ((A : Int) == 0) = false := by rw [beq_eq_false_iff_ne]; omega
  have HB3 := Lib.hid b3
  clear hs3 hK3 hd hA lA b0 b1 b2 b3
  go_wp2
  go_loop [4] (fun v4 => RelK d v4) (fun v4 => 1 + d - (intOf v4).toNat)
  case atStart => exact ⟨0, Nat.zero_le _, rfl⟩
  case round =>
    obtain ⟨t, ht, rfl⟩ := hrel
    by_cases hlt : t < d
    · have ct := HALL.out.dig t hlt
      have hx := dgt_lt n d t
      obtain ⟨x, hxe⟩ : ∃ x, x = dgt n d t := ⟨_, rfl⟩
      rw [← hxe] at ct hx
      have i1 : ((1 + t : Nat) : Int) < (A : Int) := by omega
      have i2 : (48 : Int) + (x : Int) ≥ 48 := by omega
      have i3 : (48 : Int) + (x : Int) ≤ 57 := by omega
      clear hxe
      go_wp2
      go_round
      case rel => exact ⟨t + 1, by omega, by go_num⟩
      case measure => simp [intOf]; omega
    · obtain rfl : t = d := by omega
      have c1 := HALL.out.dig 0 (by omega)
      rw [Nat.add_zero] at c1
      have HP0 : Hid (pref n t 0 = 0) := Lib.hid (by have := pref_zero n; rwa [HALL.out.dA] at this)
      have k8 : ¬ (1 + (t : Int)) > 8 := by omega
      have k1 : ((1 + (t : Int)) == 1) = false := by rw [beq_eq_false_iff_ne]; omega
      have kA : (1 + (t : Int)) < (A : Int) := by omega
      by_cases hz : dgt n t 0 = 0
      · rw [hz] at c1
        have c1' : w3.cell? ⟨g3, 1, none⟩ = some (.int .u8 48) := c1
        have hd1e : t = 1 := by
          by_cases h2 : 2 ≤ t
          · have := first_digit n (by rw [HALL.out.dA]; exact h2)
            rw [HALL.out.dA] at this
            exact absurd hz this
          · omega
        have k2 : ¬ (1 + (t : Int)) > 2 := by omega
        clear c1 hd1e hz
        go_wp2
        go_loop [5, 6] (fun v5 v6 => RelV n t v5 v6) (fun _ v6 => 1 + t - (intOf v6).toNat)
        case atStart => exact ⟨0, Nat.zero_le _, rfl, by rw [HP0.out]; rfl⟩
        case round =>
          obtain ⟨t2, ht2, rfl, rfl⟩ := hrel
          by_cases hlt2 : t2 < t
          · have ct := HALL.out.dig t2 hlt2
            have hx := dgt_lt n t t2
            have hst := pref_step n t t2 hlt2
            have hpl := pref_le n t (t2 + 1)
            obtain ⟨x, hxe⟩ : ∃ x, x = dgt n t t2 := ⟨_, rfl⟩
            obtain ⟨P, hPe⟩ : ∃ P, P = pref n t t2 := ⟨_, rfl⟩
            obtain ⟨P2, hP2e⟩ : ∃ P2, P2 = pref n t (t2 + 1) := ⟨_, rfl⟩
            rw [← hxe] at ct hx hst
            rw [← hPe, ← hP2e] at hst
            rw [← hP2e] at hpl
            rw [← hPe]
            have i1 : (1 + (t2 : Int)) < 1 + (t : Int) := by omega
            have i1' : (1 + (t2 : Int)) < (A : Int) := by omega
            have i3 : (x : Int) ≤ 9 := by omega
            have i4 : (P : Int) * 10 + (x : Int) = (P2 : Int) := by omega
            have i5 : (P2 : Int) ≤ 1048576 := by omega
            have i6 : (P : Int) * 10 ≤ 1048576 := by omega
            have HP2 := Lib.hid hP2e
            clear hxe hPe hP2e hst
            go_wp2
            go_round
            case rel =>
              refine ⟨t2 + 1, by omega, by go_num, ?_⟩
              have e : (P : Int) * 10 + (48 + (x : Int) - 48) = (P2 : Int) := by omega
              rw [e, HP2.out]
            case measure => simp [intOf]; omega
          · obtain rfl : t = t2 := by omega
            rw [pref_all]
            have j1 : ¬ (1 + (t : Int)) < 1 + (t : Int) := by omega
            have kA2 : ¬ (1 + (t : Int)) + 2 > (A : Int) := by omega
            have kA3 : (1 + (t : Int)) + 1 < (A : Int) := by omega
            have kA4 : (1 + (t : Int)) + 2 ≤ (A : Int) := by omega
            have c10' : w3.cell? ⟨g3, 1 + t + 1, none⟩ = some (.int .u8 10) := by have e : 1 + t + 1 = 2 + t := by omega
                                                                                  rw [e]; exact c10
            have hcn : ¬ cap3 = 1 + t + 2 := by omega
            have hAs : A - (1 + t + 2) = n + 2 := by have := HA.out; omega
            clear c10
            go_wp2_with fail
            go_at_call 10
            refine (HALL.out.twice (cap3 - (1 + t + 2)) (by omega)).mono ?_
            rintro e w4 ⟨g1, g2, rfl, hs1, hs2, hK4⟩
            have HB := Lib.hid (HALL.out.back hs1 hs2 hK4)
            clear hs1 hs2 hK4
            go_wp2_with fail
            go_at_call 11
            refine (bytesEq_same _ sp' n _ _ cs g1 0 ga 0 _ HN.out (by omega) HU.out (fun _ => ⟨rfl, HB.out.s1⟩) HB.out.ha).mono ?_
            rintro e w5 ⟨rfl, hD5⟩
            have k0 : w5.cell? ⟨g2, 0, none⟩ = some (.int .u8 13) := hD5.kb.fcell HB.out.c0
            have k1' : w5.cell? ⟨g2, 1, none⟩ = some (.int .u8 10) := hD5.kb.fcell HB.out.c1
            have HK5 := Lib.hid (HB.out.kb.ftrans hD5.kb)
            clear hD5
            go_wp2
            go_ret
            exact ⟨rfl, HK5.out.below _ (Nat.le_refl _) (fun _ e => e.elim)⟩
      · obtain ⟨x0, hx0⟩ : ∃ x0, x0 = dgt n t 0 := ⟨_, rfl⟩
        rw [← hx0] at c1 hz
        have z0 : ((48 + (x0 : Int)) == 48) = false := by rw [beq_eq_false_iff_ne]; omega
        have x09 : (x0 : Int) ≤ 9 := by have := dgt_lt n t 0; omega
        clear hx0 hz
        go_wp2
        go_loop [5, 6] (fun v5 v6 => RelV n t v5 v6) (fun _ v6 => 1 + t - (intOf v6).toNat)
        case atStart => exact ⟨0, Nat.zero_le _, rfl, by rw [HP0.out]; rfl⟩
        case round =>
          obtain ⟨t2, ht2, rfl, rfl⟩ := hrel
          by_cases hlt2 : t2 < t
          · have ct := HALL.out.dig t2 hlt2
            have hx := dgt_lt n t t2
            have hst := pref_step n t t2 hlt2
            have hpl := pref_le n t (t2 + 1)
            obtain ⟨x, hxe⟩ : ∃ x, x = dgt n t t2 := ⟨_, rfl⟩
            obtain ⟨P, hPe⟩ : ∃ P, P = pref n t t2 := ⟨_, rfl⟩
            obtain ⟨P2, hP2e⟩ : ∃ P2, P2 = pref n t (t2 + 1) := ⟨_, rfl⟩
            rw [← hxe] at ct hx hst
            rw [← hPe, ← hP2e] at hst
            rw [← hP2e] at hpl
            rw [← hPe]
            have i1 : (1 + (t2 : Int)) < 1 + (t : Int) := by omega
            have i1' : (1 + (t2 : Int)) < (A : Int) := by omega
            have i3 : (x : Int) ≤ 9 := by omega
            have i4 : (P : Int) * 10 + (x : Int) = (P2 : Int) := by omega
            have i5 : (P2 : Int) ≤ 1048576 := by omega
            have i6 : (P : Int) * 10 ≤ 1048576 := by omega
            have HP2 := Lib.hid hP2e
            clear hxe hPe hP2e hst
            go_wp2
            go_round
            case rel =>
              refine ⟨t2 + 1, by omega, by go_num, ?_⟩
              have e : (P : Int) * 10 + (48 + (x : Int) - 48) = (P2 : Int) := by omega
              rw [e, HP2.out]
            case measure => simp [intOf]; omega
          · obtain rfl : t = t2 := by omega
            rw [pref_all]
            have j1 : ¬ (1 + (t : Int)) < 1 + (t : Int) := by omega
            have kA2 : ¬ (1 + (t : Int)) + 2 > (A : Int) := by omega
            have kA3 : (1 + (t : Int)) + 1 < (A : Int) := by omega
            have kA4 : (1 + (t : Int)) + 2 ≤ (A : Int) := by omega
            have c10' : w3.cell? ⟨g3, 1 + t + 1, none⟩ = some (.int .u8 10) := by have e : 1 + t + 1 = 2 + t := by omega
                                                                                  rw [e]; exact c10
            have hcn : ¬ cap3 = 1 + t + 2 := by omega
            have hAs : A - (1 + t + 2) = n + 2 := by have := HA.out; omega
            clear c10
            go_wp2_with fail
            go_at_call 10
            refine (HALL.out.twice (cap3 - (1 + t + 2)) (by omega)).mono ?_
            rintro e w4 ⟨g1, g2, rfl, hs1, hs2, hK4⟩
            have HB := Lib.hid (HALL.out.back hs1 hs2 hK4)
            clear hs1 hs2 hK4
            go_wp2_with fail
            go_at_call 11
            refine (bytesEq_same _ sp' n _ _ cs g1 0 ga 0 _ HN.out (by omega) HU.out (fun _ => ⟨rfl, HB.out.s1⟩) HB.out.ha).mono ?_
            rintro e w5 ⟨rfl, hD5⟩
            have k0 : w5.cell? ⟨g2, 0, none⟩ = some (.int .u8 13) := hD5.kb.fcell HB.out.c0
            have k1' : w5.cell? ⟨g2, 1, none⟩ = some (.int .u8 10) := hD5.kb.fcell HB.out.c1
            have HK5 := Lib.hid (HB.out.kb.ftrans hD5.kb)
            clear hD5
            go_wp2
            go_ret
            exact ⟨rfl, HK5.out.below _ (Nat.le_refl _) (fun _ e => e.elim)⟩
end Go.Proofs.Qxb6618767aDoor
