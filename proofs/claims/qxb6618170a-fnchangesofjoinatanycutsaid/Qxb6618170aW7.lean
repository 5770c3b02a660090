import Derived.Test.Qxb6618170aL3
import Derived.Test.Qxb6618170aPlain2
namespace Go.Proofs.Qxb6618170a
open Go.RowKit

set_option maxHeartbeats 400000 in
theorem bytes_join (ao bo co eo : Option Addr) (n m p q ac bc cc ec : Nat) (w : World) (hn : n ≤ maxLen) (hm : m ≤ maxLen) (hp : p ≤ maxLen) (hq : q ≤ maxLen) :
    Calls Try.prog 10 #[.slice ao n ac, .slice bo m bc, .slice co p cc, .slice eo q ec] w fun e w' => SomeBool e ∧ w = w' := by
  unfold maxLen at hn hm hp hq
  go_enter Try.func10, Try.ntmps10
  go_wp2
  all_goals (go_ret; exact ⟨⟨_, rfl⟩, rfl⟩)

theorem marked_snoc (L : List Bool) (k : Nat) (h : k < L.length) : marked (L.take (k + 1)) = marked (L.take k) + if L[k] = true then 1 else 0 := by
  rw [take_snoc L k h, marked, marked, List.countP_append]
  cases hL : L[k] <;> simp
theorem marked_le (L : List Bool) : marked L ≤ L.length := List.countP_le_length

def RelM (L : List Bool) (n i : Value) : Prop := ∃ k : Nat, k ≤ L.length ∧ i = .int .i64 k ∧ n = .int .i64 (marked (L.take k) : Nat)

set_option maxHeartbeats 400000 in
theorem markedCount_any (ao : Option Addr) (L : List Bool) (cap : Nat) (w : World) (h : Bools w ao L) (hl : L.length ≤ maxLen) :
    Calls Try.prog 13 #[.slice ao L.length cap] w fun e w' => e = .returned (.int .i64 (marked L : Nat)) ∧ w = w' := by
  unfold maxLen at hl
  go_enter Try.func13, Try.ntmps13
  go_wp2
  go_loop [3, 4] (fun n i => RelM L n i) (fun _ i => L.length - (intOf i).toNat)
  case atStart => exact ⟨0, Nat.zero_le _, rfl, rfl⟩
  case round =>
    obtain ⟨k, hk, rfl, rfl⟩ := hrel
    have hkl : marked (L.take k) ≤ k := by have := marked_le (L.take k); have := List.length_take_le k L; omega
    by_cases hlt : k < L.length
    · obtain ⟨b, o, rfl, hb, hc⟩ := h.at_ hlt
      have HS : Hid (marked (L.take (k + 1)) = marked (L.take k) + if L[k] = true then 1 else 0) := marked_snoc L k hlt
      have hlt' : (k : Int) < (L.length : Int) := by omega
      cases hv : L[k] with
      | false =>
        go_wp2
        go_round
        case rel => exact ⟨k + 1, by omega, by go_num, by rw [HS.out, if_neg (by simp [hv])]; rfl⟩
        case measure => simp [intOf]; omega
      | true =>
        go_wp2
        go_round
        case rel => exact ⟨k + 1, by omega, by go_num, by rw [HS.out, if_pos hv]; go_num⟩
        case measure => simp [intOf]; omega
    · obtain rfl : k = L.length := by omega
      rw [List.take_of_length_le (Nat.le_refl _)] at hkl
      go_wp2
      go_ret
      exact ⟨rfl, rfl⟩

structure GathB (wb : World) (B g N : Nat) (M : List Bool) (wr : World) : Prop where
  own : wr.ownsRow B 4 1 (.slice (some ⟨g, 0, none⟩) M.length N) M.length (bv M)
  bel : Below B wb wr

def RelJB (w : World) (g N : Nat) (pre L : List Bool) (v i : Value) (wr : World) : Prop :=
  ∃ k : Nat, k ≤ L.length ∧ i = .int .i64 k ∧ v = .slice (some ⟨g, 0, none⟩) (pre.length + k) N ∧ GathB w w.heap.size g N (pre ++ L.take k) wr

theorem GathB.step {wb : World} {B g N : Nat} {M : List Bool} {b : Bool} {wr w2 : World} {o : Obj} (h : GathB wb B g N M wr) (hB : B ≤ wr.heap.size) (hg : B ≤ g)
    (hown : w2.ownsRow B 4 1 (.slice (some ⟨g, 0, none⟩) (M.length + 1) N) (M.length + 1) (bv M ++ [.bool b])) (hgr : (wr.alloc o).grownBy w2 (some g)) : GathB wb B g N (M ++ [b]) w2 :=
  ⟨by simpa [bv] using hown, (h.bel.alloc hB o).grown hgr (by simp; omega) (fun k hk => by cases hk; exact hg)⟩

set_option maxHeartbeats 1000000 in
theorem joinBools_any (ao bo : Option Addr) (D E : List Bool) (ac bc : Nat) (w : World) (hD : Bools w ao D) (hE : Bools w bo E) (hl : D.length + E.length ≤ 1048576) :
    Calls Try.prog 11 #[.slice ao D.length ac, .slice bo E.length bc] w
      fun e w' => e = .returned (.slice (some ⟨w.heap.size, 0, none⟩) (D ++ E).length (D.length + E.length)) ∧ Bools w' (some ⟨w.heap.size, 0, none⟩) (D ++ E) ∧ Below w.heap.size w w' := by
  obtain ⟨i0, hi, hz0, hz1, hz2⟩ := info_parts Try.info4
  obtain ⟨N, hN⟩ : ∃ N, D.length + E.length = N := ⟨_, rfl⟩
  have HN : Hid (D.length + E.length = N) := hN
  rw [hN] at hl ⊢
  have hN1 : D.length ≤ N := by omega
  have hNi : (D.length : Int) + (E.length : Int) ≤ 1048576 := by omega
  clear hN
  go_enter Try.func11, Try.ntmps11
  go_wp2_with (at_make; refine wpList_make_own _ rfl _ _ 22 rfl w.heap.size 4 i0 _ 1 Try.underlying22 hi hz0 hz1 _ _ _ N rfl rfl (by have := HN.out; omega) (by rw [hz2]; omega) (by unfold maxLen; omega) (Nat.le_refl _) ?_)
  intro w1 hown hgrow
  have G0 : GathB w w.heap.size w.heap.size N [] w1 := ⟨by simpa [bv] using hown, (Below.refl _ _).grown hgrow (Nat.le_refl _) (fun _ h => by cases h)⟩
  clear hown hgrow
  go_wp2
  go_loopw [5, 6] (fun v i wr => RelJB w w.heap.size N [] D v i wr) (fun _ i _ => D.length - (intOf i).toNat)
  case atStart => exact ⟨0, Nat.zero_le _, rfl, by simp, by simpa using G0⟩
  case round =>
    obtain ⟨k, hk, rfl, rfl, hG⟩ := hrel
    by_cases hlt : k < D.length
    · have hBr : w.heap.size ≤ wr.heap.size := hG.bel.size
      obtain ⟨b, o, rfl, hb, hc0⟩ := hD.at_ hlt
      have hc := (hG.bel.cell (p := ⟨b, o + k, none⟩) hb).trans hc0
      have hlt' : (k : Int) < (D.length : Int) := by omega
      have HT : Hid (D.take (k + 1) = D.take k ++ [D[k]]) := take_snoc D k hlt
      have HL : Hid (([] ++ D.take k).length = ([] : List Bool).length + k) := by show _ = _; simp; omega
      have hown := hG.own
      rw [HL.out] at hown
      have hroom : ([] : List Bool).length + k + 1 ≤ N := by simp; omega
      go_wp2_with (at_builtin; refine wpList_append_fits _ rfl (.tmp 20) (.tmp 25) 22 rfl w.heap.size 4 i0 1 Try.underlying22 hi hz1 w.heap.size (([] : List Bool).length + k) N (bv ([] ++ D.take k)) rfl (hown.alloc _) ⟨wr.heap.size, 0, none⟩ 1 1 [.bool D[k]] rfl rfl (cell_one_new _ _ _) (by intro u hu; simp at hu; subst hu; rfl) hroom ?_)
      intro w2 hown2 hgrow2
      have hG2 : GathB w w.heap.size w.heap.size N ([] ++ D.take (k + 1)) w2 := by
        rw [HT.out, ← List.append_assoc]; exact hG.step hBr (Nat.le_refl _) (by rw [HL.out]; simpa using hown2) hgrow2
      clear hown2 hgrow2 hown
      go_wp2
      go_roundw
      case rel => exact ⟨k + 1, by omega, by go_num, by simp only [List.length_nil, Nat.zero_add], hG2⟩
      case measure => simp [intOf]; omega
    · obtain rfl : k = D.length := by omega
      have G1 := hG
      rw [List.take_of_length_le (Nat.le_refl _), List.nil_append] at G1
      clear hG
      go_wp2
      go_loopw [5, 7] (fun v i wr => RelJB w w.heap.size N D E v i wr) (fun _ i _ => E.length - (intOf i).toNat)
      case atStart => exact ⟨0, Nat.zero_le _, rfl, by simp, by simpa using G1⟩
      case round =>
        obtain ⟨k, hk, rfl, rfl, hG⟩ := hrel
        by_cases hlt : k < E.length
        · have hBr : w.heap.size ≤ wr.heap.size := hG.bel.size
          obtain ⟨b, o, rfl, hb, hc0⟩ := hE.at_ hlt
          have hc := (hG.bel.cell (p := ⟨b, o + k, none⟩) hb).trans hc0
          have hlt' : (k : Int) < (E.length : Int) := by omega
          have HT : Hid (E.take (k + 1) = E.take k ++ [E[k]]) := take_snoc E k hlt
          have HL : Hid ((D ++ E.take k).length = D.length + k) := by show _ = _; simp; omega
          have hown := hG.own
          rw [HL.out] at hown
          have hroom : D.length + k + 1 ≤ N := by have := HN.out; omega
          go_wp2_with (at_builtin; refine wpList_append_fits _ rfl (.tmp 33) (.tmp 38) 22 rfl w.heap.size 4 i0 1 Try.underlying22 hi hz1 w.heap.size (D.length + k) N (bv (D ++ E.take k)) rfl (hown.alloc _) ⟨wr.heap.size, 0, none⟩ 1 1 [.bool E[k]] rfl rfl (cell_one_new _ _ _) (by intro u hu; simp at hu; subst hu; rfl) hroom ?_)
          intro w2 hown2 hgrow2
          have hG2 : GathB w w.heap.size w.heap.size N (D ++ E.take (k + 1)) w2 := by
            rw [HT.out, ← List.append_assoc]; exact hG.step hBr (Nat.le_refl _) (by rw [HL.out]; simpa using hown2) hgrow2
          clear hown2 hgrow2 hown
          go_wp2
          go_roundw
          case rel => exact ⟨k + 1, by omega, by go_num, by rw [Nat.add_assoc], hG2⟩
          case measure => simp [intOf]; omega
        · obtain rfl : k = E.length := by omega
          have G2 := hG
          rw [List.take_of_length_le (Nat.le_refl _)] at G2
          clear hG
          go_wp2
          go_ret
          refine ⟨by simp, .inr ⟨w.heap.size, 0, rfl, (G2.own.lt w.heap.size rfl).2, fun i v hv => ?_⟩, G2.bel⟩
          have := G2.own.cells (g := w.heap.size) rfl i (.bool v) (by unfold bv; rw [List.getElem?_map, hv]; rfl)
          rwa [Addr.add_lit] at this
end Go.Proofs.Qxb6618170a
