import Derived.Test.Qxb6618170aBase
namespace Go.Proofs.Qxb6618170a
open Go.RowKit

theorem Try.info3 : (Try.prog.info? 3).map (fun i => (i.zero, i.size, i.bytes)) = some (some (.int .i64 0), 1, 8) := by kernel_rfl

def iv (n : Nat) : Value := .int .i64 n
theorem kp_snoc (L : List Bool) : ∀ (i k : Nat) (h : k < L.length), kp i (L.take (k + 1)) = kp i (L.take k) ++ if L[k] = true then [] else [i + k] := by
  induction L with
  | nil => intro i k h; simp at h
  | cons b L ih =>
    intro i k h
    cases k with
    | zero => cases b <;> simp [kp]
    | succ k =>
      have := ih (i + 1) k (by simpa using h)
      rw [show i + 1 + k = i + (k + 1) by omega] at this
      cases b
      · simp only [List.take_succ_cons, kp, this, List.getElem_cons_succ, List.cons_append]
      · simp only [List.take_succ_cons, kp, this, List.getElem_cons_succ]
theorem kp_length (L : List Bool) : ∀ i, (kp i L).length = kept L := by
  induction L with
  | nil => intro i; rfl
  | cons b L ih =>
    intro i
    have := ih (i + 1)
    cases b <;> simp [kp, kept] at this ⊢ <;> omega

/-- A slice of ints that hold naturals. -/
def Ints (w : World) (g : Nat) (L : List Nat) : Prop := g < w.heap.size ∧ ∀ i v, L[i]? = some v → w.cell? ⟨g, i, none⟩ = some (.int .i64 (v : Nat))

theorem Ints.below {B : Nat} {w w' : World} {g : Nat} {L : List Nat} (h : Ints w g L) (hw : Below B w w') (hg : g < B) : Ints w' g L :=
  ⟨by have := hw.size; have := h.1; omega, fun i v hv => (hw.cell (p := ⟨g, i, none⟩) hg).trans (h.2 i v hv)⟩

structure GathI (wb : World) (B g N : Nat) (M : List Nat) (wr : World) : Prop where
  own : wr.ownsRow B 3 1 (.slice (some ⟨g, 0, none⟩) M.length N) M.length (M.map iv)
  bel : Below B wb wr

def RelKp (w : World) (g N : Nat) (L : List Bool) (v i : Value) (wr : World) : Prop := ∃ k : Nat, k ≤ L.length ∧ i = .int .i64 k ∧ v = .slice (some ⟨g, 0, none⟩) (kp 0 (L.take k)).length N ∧ GathI w w.heap.size g N (kp 0 (L.take k)) wr

set_option maxHeartbeats 400000 in
theorem keptAt_any (ao : Option Addr) (L : List Bool) (cap : Nat) (w : World) (h : Bools w ao L) (hl : L.length ≤ 1048576) :
    Calls Try.prog 15 #[.slice ao L.length cap] w fun e w' => e = .returned (.slice (some ⟨w.heap.size, 0, none⟩) (kept L) L.length) ∧ Ints w' w.heap.size (kp 0 L) ∧ Below w.heap.size w w' := by
  obtain ⟨i0, hi, hz0, hz1, hz2⟩ := info_parts Try.info3
  go_enter Try.func15, Try.ntmps15
  go_wp2_with (at_make; refine wpList_make_own _ rfl _ _ 38 rfl w.heap.size 3 i0 _ 1 Try.underlying38 hi hz0 hz1 _ _ _ L.length rfl rfl rfl (by rw [hz2]; omega) (by unfold maxLen; omega) (Nat.le_refl _) ?_)
  intro w1 hown hgrow
  have G0 : GathI w w.heap.size w.heap.size L.length [] w1 := ⟨by simpa using hown, (Below.refl _ _).grown hgrow (Nat.le_refl _) (fun _ h => by cases h)⟩
  clear hown hgrow
  go_wp2
  go_loopw [3, 4] (fun v i wr => RelKp w w.heap.size L.length L v i wr) (fun _ i _ => L.length - (intOf i).toNat)
  case atStart => exact ⟨0, Nat.zero_le _, rfl, rfl, G0⟩
  case round =>
    obtain ⟨k, hk, rfl, rfl, hG⟩ := hrel
    have hkl : (kp 0 (L.take k)).length ≤ k := by rw [kp_length]; have := kept_le (L.take k); have := List.length_take_le k L; omega
    by_cases hlt : k < L.length
    · have hcw := h.at_ hlt
      obtain ⟨b, o, rfl, hb, hc0⟩ := hcw
      have hc := (hG.bel.cell (p := ⟨b, o + k, none⟩) hb).trans hc0
      have hlt' : (k : Int) < (L.length : Int) := by omega
      have HS : Hid (kp 0 (L.take (k + 1)) = kp 0 (L.take k) ++ if L[k] = true then [] else [0 + k]) := kp_snoc L 0 k hlt
      obtain ⟨M, hM⟩ : ∃ M, M = kp 0 (L.take k) := ⟨_, rfl⟩
      rw [← hM] at hG hkl
      rw [← hM]
      have HM : Hid (M = kp 0 (L.take k)) := hM
      clear hM
      cases hv : L[k] with
      | true =>
        have HT : Hid (kp 0 (L.take (k + 1)) = M) := by
          have := HS.out
          rw [if_pos hv, List.append_nil, ← HM.out] at this
          exact this
        rw [hv] at hc
        clear HS
        go_wp2
        go_roundw
        case rel => exact ⟨k + 1, by omega, by go_num, by rw [HT.out], by rw [HT.out]; exact hG⟩
        case measure => simp [intOf]; omega
      | false =>
        have HT : Hid (kp 0 (L.take (k + 1)) = M ++ [k]) := by
          have := HS.out
          rw [if_neg (by simp [hv]), ← HM.out, Nat.zero_add] at this
          exact this
        rw [hv] at hc
        clear HS
        go_wp2_with (at_builtin; refine wpList_append_fits _ rfl (.tmp 19) (.tmp 21) 38 rfl w.heap.size 3 i0 1 Try.underlying38 hi hz1 w.heap.size M.length L.length (M.map iv) rfl (hG.own.alloc _) ⟨wr.heap.size, 0, none⟩ 1 1 [.int .i64 (k : Nat)] rfl rfl (cell_one_new _ _ _) (by intro u hu; simp at hu; subst hu; rfl) (by omega) ?_)
        intro w2 hown2 hgrow2
        have hG2 : GathI w w.heap.size w.heap.size L.length (M ++ [k]) w2 :=
          ⟨by simpa [iv] using hown2, (hG.bel.alloc hG.bel.size _).grown hgrow2 (by have := hG.bel.size; simp; omega) (fun j hj => by cases hj; exact Nat.le_refl _)⟩
        clear hown2 hgrow2
        go_wp2
        go_roundw
        case rel => exact ⟨k + 1, by omega, by go_num, by rw [HT.out]; simp, by rw [HT.out]; exact hG2⟩
        case measure => simp [intOf]; omega
    · obtain rfl : k = L.length := by omega
      rw [List.take_of_length_le (Nat.le_refl _)] at hG
      have hkk := kp_length L 0
      have HKK : Hid ((kp 0 L).length = kept L) := hkk
      clear hkk
      go_wp2
      go_ret
      refine ⟨by rw [← HKK.out]; simp, ⟨(hG.own.lt w.heap.size rfl).2, fun i v hv => ?_⟩, hG.bel⟩
      have := hG.own.cells (g := w.heap.size) rfl i (.int .i64 (v : Nat)) (by simp [iv, hv])
      rwa [Addr.add_lit, Nat.zero_add] at this
end Go.Proofs.Qxb6618170a
