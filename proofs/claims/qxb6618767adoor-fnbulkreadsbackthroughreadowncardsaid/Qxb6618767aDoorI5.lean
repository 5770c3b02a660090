import Derived.Test.Qxb6618767aDoorI4
namespace Go.Proofs.Qxb6618767aDoor
open Go.RowKit

/-- (*bufio.Reader).Read where the stream still holds bytes. -/
theorem read_any (p q d s o g off L cL : Nat) (D : List Value) (i a b : Nat) (F : List Value) (cur : Array Value) (w : World) (h : RS w p q d s o D i a b F) (hR : 0 < (F ++ D.drop i).length) (hD : D.length ≤ 1073741824) (hL : 0 < L) (hgp : g ≠ p) (hgq : g ≠ q) (hgd : g ≠ d) (hgs : g ≠ s)
    (hg : w.heap[g]? = some (.cells cur 5 (0, 0))) (hfit : off + L ≤ cur.size) :
    Calls Tryd.prog 87 #[.pointer (some ⟨p, 0, none⟩), .slice (some ⟨g, off, none⟩) L cL] w fun e w' => ReadOut w p q d s o g off L D cur (F ++ D.drop i) e w' := by
  by_cases hF : 0 < F.length
  · exact read_buf p q d s o g off L cL D i a b F cur w h hF hL hgp hgq hgd hgs hg hfit
  · obtain rfl : F = [] := List.eq_nil_of_length_eq_zero (by omega)
    obtain rfl : b = a := by have := h.ab; simpa using this.symm
    have hi : i < D.length := by rw [List.nil_append, List.length_drop] at hR; omega
    rw [List.nil_append]
    by_cases h16 : 16384 ≤ L
    · exact read_direct p q d s o g off L cL D i b cur w h hi hD h16 hgp hgq hgd hgs hg hfit
    · exact read_fill p q d s o g off L cL D i b cur w h hi hD hL (by omega) hgp hgq hgd hgs hg hfit

/-- The row g of L cells holds the stream's first k bytes; the reader stands behind them. -/
structure RelR (w : World) (p q d s o g L : Nat) (D R : List Value) (k i a b : Nat) (F : List Value) (cur : Array Value) (wr : World) : Prop where
  kL : k ≤ L
  rs : RS wr p q d s o D i a b F
  str : F ++ D.drop i = R.drop k
  row : wr.heap[g]? = some (.cells cur 5 (0, 0))
  size : cur.size = L
  have_ : cur.toList.take k = R.take k
  kb : KB (RdS p q d g) w wr

def RelA (w : World) (p q d s o g L : Nat) (D R : List Value) (v6 v7 : Value) (wr : World) : Prop :=
  ∃ (k i a b : Nat) (F : List Value) (cur : Array Value), v6 = .int .i64 k ∧ v7 = .nilIface ∧ RelR w p q d s o g L D R k i a b F cur wr

theorem relA_next {w wr w2 : World} {p q d s o g L : Nat} {D R : List Value} {k i a b : Nat} {F : List Value} {cur : Array Value} {e : Ending} {m : Nat} (h : RelR w p q d s o g L D R k i a b F cur wr) (h2 : ReadOut wr.drew p q d s o g k m D cur (F ++ D.drop i) e w2) (hm : k + m = L) :
    ∃ n, 0 < n ∧ k + n ≤ L ∧ e = .returned (.tuple #[.int .i64 n, .nilIface]) ∧ RelA w p q d s o g L D R (.int .i64 ((k : Int) + (n : Int))) .nilIface w2 := by
  obtain ⟨n, i', a', b', F', hn0, hnm, hnR, hstr, hrs, he, hrow, hK⟩ := h2
  have hsz : cur.toList.length = L := by rw [← h.size]; exact Array.length_toList
  have hl : ((F ++ D.drop i).take n).length = n := by rw [List.length_take]; omega
  have hfit : k + ((F ++ D.drop i).take n).length ≤ cur.toList.length := by rw [hl, hsz]; omega
  refine ⟨n, hn0, by omega, he, k + n, i', a', b', F', _, by rw [Int.natCast_add], rfl, ⟨by omega, hrs, ?_, hrow, ?_, ?_, ?_⟩⟩
  · rw [hstr, h.str, List.drop_drop]
  · rw [List.size_toArray, length_splice _ _ _ hfit]; exact hsz
  · have ht := splice_take cur.toList ((F ++ D.drop i).take n) k hfit
    rw [hl, h.have_, h.str] at ht
    have e2 : R.take (k + n) = R.take k ++ (R.drop k).take n := List.take_add
    rw [e2, h.str]
    exact ht
  · exact (h.kb.drewN 1).trans hK (fun _ _ e => e)

def FullOut (w : World) (p q d s o g L : Nat) (D R : List Value) (e : Ending) (w' : World) : Prop :=
  e = .returned (.tuple #[.int .i64 L, .nilIface]) ∧ ∃ (i a b : Nat) (F : List Value), RS w' p q d s o D i a b F ∧ F ++ D.drop i = R.drop L ∧ Src w' g 0 (R.take L) ∧ KB (RdS p q d g) w w'

theorem methodRead2 (x : Value) (W : World) : Sem.run Tryd.prog (method 239 71 x "Read") W = .ok (87, x) W := by kernel_rfl

theorem nilRead (p : Nat) (W : World) : Sem.run Tryd.prog (nilAhead 239 71 (.pointer (some ⟨p, 0, none⟩)) "Read") W = .ok (some false) W := by kernel_rfl

set_option maxHeartbeats 4000000 in
set_option maxRecDepth 100000 in
theorem readAtLeast_any (p q d s o g L : Nat) (D R : List Value) (i a b : Nat) (F : List Value) (cur : Array Value) (w : World) (h : RS w p q d s o D i a b F) (hR : F ++ D.drop i = R) (hLR : L ≤ R.length) (hD : D.length ≤ 1073741824) (hL2 : L ≤ 1073741824) (hgp : g ≠ p) (hgq : g ≠ q) (hgd : g ≠ d) (hgs : g ≠ s)
    (hg : w.heap[g]? = some (.cells cur 5 (0, 0))) (hsz : cur.size = L) :
    Calls Tryd.prog 42 #[.iface 71 (.pointer (some ⟨p, 0, none⟩)), .slice (some ⟨g, 0, none⟩) L L, .int .i64 L] w fun e w' => FullOut w p q d s o g L D R e w' := by
  have F0 : RelA w p q d s o g L D R (.int .i64 0) .nilIface w := ⟨0, i, a, b, F, cur, rfl, rfl, ⟨Nat.zero_le _, h, by rw [hR, List.drop_zero], hg, hsz, by rw [List.take_zero, List.take_zero], KB.refl _ _⟩⟩
  have hm : ∀ (x : Value) (W : World), Sem.run Tryd.prog (method 239 71 x "Read") W = .ok (87, x) W := methodRead2
  have hna : ∀ W : World, Sem.run Tryd.prog (nilAhead 239 71 (.pointer (some ⟨p, 0, none⟩)) "Read") W = .ok (some false) W := nilRead p
  clear h hR hg hsz
  go_enter Tryd.func42, Tryd.ntmps42
  go_wp2
  go_loopw [6, 7] (fun v6 v7 wr => RelA w p q d s o g L D R v6 v7 wr) (fun v6 _ _ => L - (intOf v6).toNat)
  case atStart => exact F0
  case round =>
    obtain ⟨k, i', a', b', F', cur', rfl, rfl, hr⟩ := hrel
    have HR := Lib.hid hr
    have hkL := hr.kL
    clear hr
    by_cases hlt : k < L
    · have hlti : (k : Int) < (L : Int) := by omega
      have hLk : ¬ L = k := by omega
      have hRp : 0 < (F' ++ D.drop i').length := by rw [HR.out.str, List.length_drop]; omega
      have HRP := Lib.hid hRp
      clear hRp
      go_wp2_with fail
      have mixed : Tryd.prog.follows Departure.mixedOrders = true := by kernel_rfl
      go_region_with_o (
        go_at_call 87
        refine (read_any p q d s o g k (L - k) (L - k) D i' a' b' F' cur' _ ?_ HRP.out hD (by omega) hgp hgq hgd hgs ?_ (by rw [HR.out.size]; omega)).mono ?_
        exact HR.out.rs.drewN 1
        exact HR.out.row
        intro e w2 h2
        obtain ⟨n, hn0, hnL, rfl, hA⟩ := relA_next HR.out h2 (by omega)
        have HA := Lib.hid hA
        have hkn : (k : Int) + (n : Int) ≤ 1073741824 := by omega
        clear h2 hA)
      all_goals (
        go_wp2
        go_roundw
        case rel => exact HA.out
        case measure => simp [intOf]; omega)
    · have hlti : ¬ (k : Int) < (L : Int) := by omega
      have hge : (k : Int) ≥ (L : Int) := by omega
      go_wp2
      go_ret2
      obtain rfl : k = L := by omega
      refine ⟨rfl, i', a', b', F', HR.out.rs, HR.out.str, ⟨cur', 5, _, HR.out.row, ?_⟩, HR.out.kb⟩
      intro j v hj
      have hl := (List.getElem?_eq_some_iff.1 hj).1
      rw [← HR.out.have_, List.getElem?_take_of_lt (by rw [List.length_take] at hl; omega)] at hj
      rw [Nat.zero_add]
      simpa using hj

set_option maxHeartbeats 400000 in
theorem readFull_any (p q d s o g L : Nat) (D R : List Value) (i a b : Nat) (F : List Value) (cur : Array Value) (w : World) (h : RS w p q d s o D i a b F) (hR : F ++ D.drop i = R) (hLR : L ≤ R.length) (hD : D.length ≤ 1073741824) (hL2 : L ≤ 1073741824) (hgp : g ≠ p) (hgq : g ≠ q) (hgd : g ≠ d) (hgs : g ≠ s)
    (hg : w.heap[g]? = some (.cells cur 5 (0, 0))) (hsz : cur.size = L) :
    Calls Tryd.prog 37 #[.iface 71 (.pointer (some ⟨p, 0, none⟩)), .slice (some ⟨g, 0, none⟩) L L] w fun e w' => FullOut w p q d s o g L D R e w' := by
  have HC := Lib.hid (readAtLeast_any p q d s o g L D R i a b F cur w h hR hLR hD hL2 hgp hgq hgd hgs hg hsz)
  clear h hR hg hsz
  go_enter Tryd.func37, Tryd.ntmps37
  go_wp2_with (go_at_call 42; refine HC.out.mono ?_; intro e w2 h2; obtain ⟨rfl, _⟩ := id h2; have H2 := Lib.hid h2; clear h2)
  go_wp2
  go_ret2
  exact H2.out
end Go.Proofs.Qxb6618767aDoor
