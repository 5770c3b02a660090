import Derived.Test.Qxb6618124aG
namespace Go.Proofs.Qxb6618124a
open Go.RowKit

def RelJ (wb : World) (B g N : Nat) (pre L : List Rc) (v i : Value) (wr : World) : Prop :=
  ∃ k : Nat, k ≤ L.length ∧ i = .int .i64 k ∧ v = .slice (some ⟨g, 0, none⟩) (pre.length + k) N ∧ Gath wb B g N (pre.length + k) (pre ++ L.take k) wr

set_option maxHeartbeats 1000000 in
theorem join_any (ao bo co : Option Addr) (rs us ds : List Rc) (ac bc cc : Nat) (w : World) (hr : Recs w ao rs) (hu : Recs w bo us) (hd : Recs w co ds) (hl : rs.length + us.length + ds.length ≤ 1048576) :
    Calls Try.prog 17 #[.slice ao rs.length ac, .slice bo us.length bc, .slice co ds.length cc] w
      fun e w' => e = .returned (.slice (some ⟨w.heap.size, 0, none⟩) (rs.length + us.length + ds.length) (rs.length + us.length + ds.length)) ∧ Recs w' (some ⟨w.heap.size, 0, none⟩) (rs ++ us ++ ds) ∧ Below w.heap.size w w' ∧ w.heap.size < w'.heap.size := by
  obtain ⟨i0, hi, hz0, hz1, hz2⟩ := info_parts Try.info40
  obtain ⟨N, hN⟩ : ∃ N, rs.length + us.length + ds.length = N := ⟨_, rfl⟩
  have HN : Hid (rs.length + us.length + ds.length = N) := hN
  rw [hN] at hl ⊢
  have hN1 : rs.length ≤ N := by omega
  have hN2 : rs.length + us.length ≤ N := by omega
  have hNi : (rs.length : Int) + (us.length : Int) + (ds.length : Int) ≤ 1048576 := by omega
  clear hN
  go_enter Try.func17, Try.ntmps17
  go_wp2_with (at_make; refine wpList_make_own _ rfl _ _ 26 rfl w.heap.size 40 i0 _ 6 Try.underlying26 hi hz0 hz1 _ _ _ N rfl rfl (by have := HN.out; omega) (by rw [hz2]; omega) (by unfold maxLen; omega) (Nat.le_refl _) ?_)
  intro w1 hown hgrow
  have G0 : Gath w w.heap.size w.heap.size N 0 [] w1 := ⟨rfl, by simpa [flat] using hown, (Below.refl _ _).grown hgrow (Nat.le_refl _) (fun _ h => by cases h)⟩
  clear hown hgrow
  go_wp2
  go_loopw [7, 8] (fun v i wr => RelJ w w.heap.size w.heap.size N ([] : List Rc) rs v i wr) (fun _ i _ => rs.length - (intOf i).toNat)
  case atStart => exact ⟨0, Nat.zero_le _, rfl, by simp, by simpa using G0⟩
  case round =>
    obtain ⟨k, hk, rfl, rfl, hG⟩ := hrel
    by_cases hlt : k < rs.length
    · have hBr : w.heap.size ≤ wr.heap.size := hG.bel.size
      obtain h | ⟨b, o, rfl, hb, hc⟩ := hr
      · simp [h] at hlt
      obtain ⟨c0, c1, c2, c3, c4, c5⟩ := (hc k rs[k] (by simp)).below hG.bel hb
      have hlt' : (k : Int) < (rs.length : Int) := by omega
      have hroom : ([] : List Rc).length + k + 1 ≤ N := by have := hN1; simp; omega
      go_wp2_with (at_builtin; refine wpList_append_fits _ rfl (.tmp 26) (.tmp 31) 26 rfl w.heap.size 40 i0 6 Try.underlying26 hi hz1 w.heap.size (([] : List Rc).length + k) N (flat (([] : List Rc) ++ rs.take k)) rfl (hG.own.alloc _) ⟨wr.heap.size, 0, none⟩ 1 1 (rs[k]).vals rfl rfl (new6 _ _ _) (oneCell_vals _) hroom ?_)
      intro w2 hown2 hgrow2
      have hG2 : Gath w w.heap.size w.heap.size N (([] : List Rc).length + k + 1) (([] : List Rc) ++ rs.take (k + 1)) w2 := by
        rw [take_snoc rs k hlt, ← List.append_assoc]; exact hG.step hBr (Nat.le_refl _) (by simpa using hown2) hgrow2
      clear hown2 hgrow2 c0 c1 c2 c3 c4 c5
      go_wp2
      go_roundw
      case rel => exact ⟨k + 1, by omega, by go_num, by simp only [List.length_nil, Nat.zero_add], hG2⟩
      case measure => simp [intOf]; omega
    · obtain rfl : k = rs.length := by omega
      have G1 := hG
      rw [List.take_of_length_le (Nat.le_refl _)] at G1
      clear hG
      go_wp2
      go_loopw [7, 9] (fun v i wr => RelJ w w.heap.size w.heap.size N rs us v i wr) (fun _ i _ => us.length - (intOf i).toNat)
      case atStart => exact ⟨0, Nat.zero_le _, rfl, by simp, by simpa using G1⟩
      case round =>
        obtain ⟨k, hk, rfl, rfl, hG⟩ := hrel
        by_cases hlt : k < us.length
        · have hBr : w.heap.size ≤ wr.heap.size := hG.bel.size
          obtain h | ⟨b, o, rfl, hb, hc⟩ := hu
          · simp [h] at hlt
          obtain ⟨c0, c1, c2, c3, c4, c5⟩ := (hc k us[k] (by simp)).below hG.bel hb
          have hlt' : (k : Int) < (us.length : Int) := by omega
          have hroom : rs.length + k + 1 ≤ N := by have := hN2; omega
          go_wp2_with (at_builtin; refine wpList_append_fits _ rfl (.tmp 39) (.tmp 44) 26 rfl w.heap.size 40 i0 6 Try.underlying26 hi hz1 w.heap.size (rs.length + k) N (flat (rs ++ us.take k)) rfl (hG.own.alloc _) ⟨wr.heap.size, 0, none⟩ 1 1 (us[k]).vals rfl rfl (new6 _ _ _) (oneCell_vals _) hroom ?_)
          intro w2 hown2 hgrow2
          have hG2 : Gath w w.heap.size w.heap.size N (rs.length + k + 1) (rs ++ us.take (k + 1)) w2 := by
            rw [take_snoc us k hlt, ← List.append_assoc]; exact hG.step hBr (Nat.le_refl _) (by simpa using hown2) hgrow2
          clear hown2 hgrow2 c0 c1 c2 c3 c4 c5
          go_wp2
          go_roundw
          case rel => exact ⟨k + 1, by omega, by go_num, by simp only [Nat.add_assoc], hG2⟩
          case measure => simp [intOf]; omega
        · obtain rfl : k = us.length := by omega
          have G2 := hG
          rw [List.take_of_length_le (Nat.le_refl _)] at G2
          clear hG
          go_wp2
          go_loopw [7, 10] (fun v i wr => RelJ w w.heap.size w.heap.size N (rs ++ us) ds v i wr) (fun _ i _ => ds.length - (intOf i).toNat)
          case atStart => exact ⟨0, Nat.zero_le _, rfl, by simp, by simpa using G2⟩
          case round =>
            obtain ⟨k, hk, rfl, rfl, hG⟩ := hrel
            by_cases hlt : k < ds.length
            · have hBr : w.heap.size ≤ wr.heap.size := hG.bel.size
              obtain h | ⟨b, o, rfl, hb, hc⟩ := hd
              · simp [h] at hlt
              obtain ⟨c0, c1, c2, c3, c4, c5⟩ := (hc k ds[k] (by simp)).below hG.bel hb
              have hlt' : (k : Int) < (ds.length : Int) := by omega
              have hroom : (rs ++ us).length + k + 1 ≤ N := by have := HN.out; simp; omega
              go_wp2_with (at_builtin; refine wpList_append_fits _ rfl (.tmp 52) (.tmp 57) 26 rfl w.heap.size 40 i0 6 Try.underlying26 hi hz1 w.heap.size ((rs ++ us).length + k) N (flat ((rs ++ us) ++ ds.take k)) rfl (hG.own.alloc _) ⟨wr.heap.size, 0, none⟩ 1 1 (ds[k]).vals rfl rfl (new6 _ _ _) (oneCell_vals _) hroom ?_)
              intro w2 hown2 hgrow2
              have hG2 : Gath w w.heap.size w.heap.size N ((rs ++ us).length + k + 1) ((rs ++ us) ++ ds.take (k + 1)) w2 := by
                rw [take_snoc ds k hlt, ← List.append_assoc]; exact hG.step hBr (Nat.le_refl _) (by simpa using hown2) hgrow2
              clear hown2 hgrow2 c0 c1 c2 c3 c4 c5
              go_wp2
              go_roundw
              case rel => exact ⟨k + 1, by omega, by go_num, by simp only [List.length_append, Nat.add_assoc], hG2⟩
              case measure => simp [intOf]; omega
            · obtain rfl : k = ds.length := by omega
              have G3 := hG
              rw [List.take_of_length_le (Nat.le_refl _)] at G3
              clear hG
              go_wp2
              go_ret
              have hNN : (rs ++ us).length + ds.length = N := by have := HN.out; simp; omega
              rw [hNN] at G3
              refine ⟨?_, G3.recs, G3.bel, (G3.own.lt w.heap.size rfl).2⟩
              simp; exact HN.out
end Go.Proofs.Qxb6618124a
