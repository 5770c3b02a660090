import Derived.Test.Qxb6618124aW1
namespace Go.Proofs.Qxb6618124a
open Go.RowKit

theorem Try.info40 : (Try.prog.info? 40).map (fun i => (i.zero, i.size, i.bytes)) = some (some (.agg #[.int .i64 0, .int .u16 0, .int .u16 0, .int .u32 0, .int .i64 0, .slice none 0 0]), 6, 48) := by kernel_rfl
theorem Try.info53 : (Try.prog.info? 53).map (fun i => (i.zero, i.size, i.bytes)) = some (some (.agg #[.int .i64 0, .int .u16 0, .int .u16 0, .int .u32 0, .int .i64 0, .slice none 0 0]), 6, 48) := by kernel_rfl

def flat (L : List Rc) : List Value := L.flatMap Rc.vals

theorem flat_length (L : List Rc) : (flat L).length = L.length * 6 := by
  induction L with
  | nil => rfl
  | cons r L ih => simp [flat, Rc.vals] at ih ⊢; omega

theorem flat_append (L M : List Rc) : flat (L ++ M) = flat L ++ flat M := by simp [flat]

theorem oneCell_vals (r : Rc) : ∀ u ∈ r.vals, u.oneCell' = true := by
  intro u hu
  simp [Rc.vals] at hu
  rcases hu with rfl | rfl | rfl | rfl | rfl | rfl <;> rfl

/-- A record in a new block. -/
theorem new6 (w : World) (r : Rc) (e : TypeId) : ∀ j u, r.vals[j]? = some u → (w.alloc (.cells #[.int .i64 r.off, .int .u16 r.ty, .int .u16 r.cls, .int .u32 r.ttl, .int .i64 r.doff, .slice r.da r.dl r.dc] e)).cell? ((⟨w.heap.size, 0, none⟩ : Addr).add j) = some u := by
  intro j u hu
  rw [Addr.add_lit]
  simp only [World.cell?, heap_alloc_new]
  simpa [Rc.vals] using hu

/-- k records M gathered in the row at g, of room N; old memory (below B, as in wb) stands. -/
structure Gath (wb : World) (B g N k : Nat) (M : List Rc) (wr : World) : Prop where
  len : M.length = k
  own : wr.ownsRow B 40 6 (.slice (some ⟨g, 0, none⟩) k N) k (flat M)
  bel : Below B wb wr

theorem Gath.step {wb : World} {B g N k : Nat} {M : List Rc} {wr w2 : World} {o : Obj} {r : Rc} (h : Gath wb B g N k M wr) (hB : B ≤ wr.heap.size) (hg : B ≤ g)
    (hown : w2.ownsRow B 40 6 (.slice (some ⟨g, 0, none⟩) (k + 1) N) (k + 1) (flat M ++ r.vals)) (hgr : (wr.alloc o).grownBy w2 (some g)) : Gath wb B g N (k + 1) (M ++ [r]) w2 :=
  ⟨by simp [h.len], by rw [flat_append]; simpa [flat] using hown, (h.bel.alloc hB o).grown hgr (by simp; omega) (fun j hj => by simp at hj; omega)⟩

theorem vals_getElem (r : Rc) : r.vals = [.int .i64 r.off, .int .u16 r.ty, .int .u16 r.cls, .int .u32 r.ttl, .int .i64 r.doff, .slice r.da r.dl r.dc] := rfl

theorem flat_at (L : List Rc) : ∀ (i : Nat) (r : Rc) (j : Nat) (u : Value), L[i]? = some r → r.vals[j]? = some u → (flat L)[i * 6 + j]? = some u := by
  induction L with
  | nil => intro i r j u h; simp at h
  | cons q L ih =>
    intro i r j u h hj
    have e : flat (q :: L) = q.vals ++ flat L := by simp [flat]
    have l6 : q.vals.length = 6 := rfl
    have hj6 : j < 6 := by have := (List.getElem?_eq_some_iff.1 hj).1; simpa [Rc.vals] using this
    cases i with
    | zero =>
      simp at h; subst h
      rw [e, List.getElem?_append_left (by omega)]; simpa using hj
    | succ i =>
      simp at h
      rw [e, List.getElem?_append_right (by omega)]
      have := ih i r j u h hj
      rw [show (i + 1) * 6 + j - q.vals.length = i * 6 + j by omega]; exact this

theorem recs_of_cells {w : World} {g : Nat} {L : List Rc} (hg : g < w.heap.size) (h : ∀ j u, (flat L)[j]? = some u → w.cell? ((⟨g, 0, none⟩ : Addr).add j) = some u) : Recs w (some ⟨g, 0, none⟩) L := by
  refine .inr ⟨g, 0, rfl, hg, fun i r hr => ?_⟩
  have key : ∀ j u, r.vals[j]? = some u → w.cell? ⟨g, 0 + (i * 6 + j), none⟩ = some u := by
    intro j u hu
    have := h _ u (flat_at L i r j u hr hu)
    rwa [Addr.add_lit] at this
  have k0 := key 0 _ rfl
  have k1 := key 1 _ rfl
  have k2 := key 2 _ rfl
  have k3 := key 3 _ rfl
  have k4 := key 4 _ rfl
  have k5 := key 5 _ rfl
  simp only [← Nat.add_assoc, Nat.add_zero] at k0 k1 k2 k3 k4 k5
  exact ⟨k0, k1, k2, k3, k4, k5⟩

theorem Gath.recs {wb : World} {B g N k : Nat} {M : List Rc} {wr : World} (h : Gath wb B g N k M wr) : Recs wr (some ⟨g, 0, none⟩) M := by
  have hlt := (h.own.lt g rfl).2
  exact recs_of_cells hlt (fun j u hu => h.own.cells (g := g) rfl j u hu)

theorem At6.below {w w' : World} {B b o : Nat} {r : Rc} (h : At6 w b o r) (hw : Below B w w') (hb : b < B) : At6 w' b o r :=
  ⟨(hw.cell hb).trans h.c0, (hw.cell hb).trans h.c1, (hw.cell hb).trans h.c2, (hw.cell hb).trans h.c3, (hw.cell hb).trans h.c4, (hw.cell hb).trans h.c5⟩

theorem take_snoc {α : Type} (L : List α) (k : Nat) (h : k < L.length) : L.take (k + 1) = L.take k ++ [L[k]] := by
  rw [List.take_succ_eq_append_getElem h]

def RelIns (wb : World) (B g N : Nat) (rs : List Rc) (K : Nat) (v i : Value) (wr : World) : Prop :=
  ∃ k : Nat, k ≤ K ∧ i = .int .i64 k ∧ v = .slice (some ⟨g, 0, none⟩) k N ∧ Gath wb B g N k (rs.take k) wr

def RelIns2 (wb : World) (B g N : Nat) (rs : List Rc) (K : Nat) (x : Rc) (v i : Value) (wr : World) : Prop :=
  ∃ k : Nat, K ≤ k ∧ k ≤ rs.length ∧ i = .int .i64 k ∧ v = .slice (some ⟨g, 0, none⟩) (k + 1) N ∧ Gath wb B g N (k + 1) (rs.take K ++ x :: (rs.take k).drop K) wr

set_option maxHeartbeats 400000 in
theorem insert_any (ao : Option Addr) (rs : List Rc) (cap : Nat) (K : Nat) (x : Rc) (w : World) (h : Recs w ao rs) (hl : rs.length ≤ 1048576) (hK : K ≤ rs.length) :
    Calls Try.prog 14 #[.slice ao rs.length cap, .int .i64 K, .agg #[.int .i64 x.off, .int .u16 x.ty, .int .u16 x.cls, .int .u32 x.ttl, .int .i64 x.doff, .slice x.da x.dl x.dc]] w
      fun e w' => e = .returned (.slice (some ⟨w.heap.size + 1, 0, none⟩) (rs.length + 1) (rs.length + 1)) ∧ Recs w' (some ⟨w.heap.size + 1, 0, none⟩) (rs.take K ++ x :: rs.drop K) ∧ Below w.heap.size w w' := by
  obtain ⟨i0, hi, hz0, hz1, hz2⟩ := info_parts Try.info40
  obtain ⟨wb, hwb⟩ : ∃ wb, wb = w.alloc (.cells #[.int .i64 x.off, .int .u16 x.ty, .int .u16 x.cls, .int .u32 x.ttl, .int .i64 x.doff, .slice x.da x.dl x.dc] 40) := ⟨_, rfl⟩
  have Hwb : Hid (wb = w.alloc (.cells #[.int .i64 x.off, .int .u16 x.ty, .int .u16 x.cls, .int .u32 x.ttl, .int .i64 x.doff, .slice x.da x.dl x.dc] 40)) := hwb
  have hsz : wb.heap.size = w.heap.size + 1 := by rw [hwb]; simp
  have Hsz : Hid (wb.heap.size = w.heap.size + 1) := hsz
  have hrb : Recs wb ao rs := by rw [hwb]; exact h.alloc _
  have hlt : ∀ a, ao = some a → rs ≠ [] → a.block < w.heap.size + 1 := by
    intro a ha hne
    rcases h with h | ⟨b, o, hb, hbb, _⟩
    · exact absurd h hne
    · rw [ha] at hb; cases hb; simp; omega
  clear hsz hwb
  go_enter Try.func14, Try.ntmps14
  go_wp2_with (at_make; refine wpList_make_own _ rfl _ _ 26 rfl (w.heap.size + 1) 40 i0 _ 6 Try.underlying26 hi hz0 hz1 _ _ _ (rs.length + 1) rfl rfl (by omega) (by rw [hz2]; omega) (by unfold maxLen; omega) (by simp) ?_)
  rw [← Hwb.out]
  intro w1 hown hgrow
  have G0 : Gath wb (w.heap.size + 1) (w.heap.size + 1) (rs.length + 1) 0 [] w1 := ⟨rfl, by simpa [flat] using hown, (Below.refl _ _).grown hgrow (by have := Hsz.out; omega) (fun _ h => by cases h)⟩
  clear hown hgrow
  go_wp2
  go_loopw [7, 8] (fun v i wr => RelIns wb (w.heap.size + 1) (w.heap.size + 1) (rs.length + 1) rs K v i wr) (fun _ i _ => K - (intOf i).toNat)
  case atStart => exact ⟨0, Nat.zero_le _, rfl, rfl, by simpa using G0⟩
  case round =>
    obtain ⟨k, hk, rfl, rfl, hG⟩ := hrel
    by_cases hkK : k < K
    · have hBr : w.heap.size + 1 ≤ wr.heap.size := by have := hG.bel.size; have := Hsz.out; omega
      obtain h | ⟨b, o, rfl, hb, hc⟩ := hrb
      · simp [h] at hK; omega
      have h6 := (hc k rs[k] (by simp)).below hG.bel (by have := Hsz.out; omega)
      obtain ⟨c0, c1, c2, c3, c4, c5⟩ := h6
      have hlt' : (k : Int) < (rs.length : Int) := by omega
      have hlt2 : (k : Int) < (K : Int) := by omega
      go_wp2_with (at_builtin; refine wpList_append_fits _ rfl (.tmp 19) (.tmp 24) 26 rfl (w.heap.size + 1) 40 i0 6 Try.underlying26 hi hz1 (w.heap.size + 1) k (rs.length + 1) (flat (rs.take k)) rfl (hG.own.alloc _) ⟨wr.heap.size, 0, none⟩ 1 1 (rs[k]).vals rfl rfl (new6 _ _ _) (oneCell_vals _) (by omega) ?_)
      intro w2 hown2 hgrow2
      have hG2 : Gath wb (w.heap.size + 1) (w.heap.size + 1) (rs.length + 1) (k + 1) (rs.take (k + 1)) w2 := by
        rw [take_snoc rs k (by omega)]; exact hG.step hBr (Nat.le_refl _) hown2 hgrow2
      clear hown2 hgrow2 c0 c1 c2 c3 c4 c5
      go_wp2
      go_roundw
      case rel => exact ⟨k + 1, by omega, by go_num, rfl, hG2⟩
      case measure => simp [intOf]; omega
    · obtain rfl : k = K := by omega
      have hBr : w.heap.size + 1 ≤ wr.heap.size := by have := hG.bel.size; have := Hsz.out; omega
      have hx : At6 wb w.heap.size 0 x := by rw [Hwb.out]; constructor <;> simp
      have hxr := hx.below hG.bel (by omega)
      obtain ⟨c0, c1, c2, c3, c4, c5⟩ := hxr
      simp only [Nat.zero_add] at c1 c2 c3 c4 c5
      go_wp2_with (at_builtin; refine wpList_append_fits _ rfl (.tmp 26) (.tmp 28) 26 rfl (w.heap.size + 1) 40 i0 6 Try.underlying26 hi hz1 (w.heap.size + 1) k (rs.length + 1) (flat (rs.take k)) rfl (hG.own.alloc _) ⟨wr.heap.size, 0, none⟩ 1 1 x.vals rfl rfl (new6 _ _ _) (oneCell_vals _) (by omega) ?_)
      intro w2 hown2 hgrow2
      have hG2 : Gath wb (w.heap.size + 1) (w.heap.size + 1) (rs.length + 1) (k + 1) (rs.take k ++ [x]) w2 := hG.step hBr (Nat.le_refl _) hown2 hgrow2
      clear hown2 hgrow2 c0 c1 c2 c3 c4 c5 hG
      go_wp2
      go_loopw [7, 9] (fun v i wr => RelIns2 wb (w.heap.size + 1) (w.heap.size + 1) (rs.length + 1) rs k x v i wr) (fun _ i _ => rs.length - (intOf i).toNat)
      case atStart => exact ⟨k, Nat.le_refl _, hK, rfl, rfl, by simpa using hG2⟩
      case round =>
        obtain ⟨m, hm1, hm2, rfl, rfl, hG⟩ := hrel
        by_cases hml : m < rs.length
        · have hBr : w.heap.size + 1 ≤ wr.heap.size := by have := hG.bel.size; have := Hsz.out; omega
          obtain h | ⟨b, o, rfl, hb, hc⟩ := hrb
          · simp [h] at hml
          have h6 := (hc m rs[m] (by simp)).below hG.bel (by have := Hsz.out; have := hlt _ rfl (by intro e; simp [e] at hml); simpa using this)
          obtain ⟨c0, c1, c2, c3, c4, c5⟩ := h6
          have hlt' : (m : Int) < (rs.length : Int) := by omega
          go_wp2_with (at_builtin; refine wpList_append_fits _ rfl (.tmp 37) (.tmp 42) 26 rfl (w.heap.size + 1) 40 i0 6 Try.underlying26 hi hz1 (w.heap.size + 1) (m + 1) (rs.length + 1) (flat (rs.take k ++ x :: (rs.take m).drop k)) rfl (hG.own.alloc _) ⟨wr.heap.size, 0, none⟩ 1 1 (rs[m]).vals rfl rfl (new6 _ _ _) (oneCell_vals _) (by omega) ?_)
          intro w2 hown2 hgrow2
          have hG2 : Gath wb (w.heap.size + 1) (w.heap.size + 1) (rs.length + 1) (m + 1 + 1) (rs.take k ++ x :: (rs.take (m + 1)).drop k) w2 := by
            have e : rs.take k ++ x :: (rs.take (m + 1)).drop k = (rs.take k ++ x :: (rs.take m).drop k) ++ [rs[m]] := by
              rw [take_snoc rs m hml, List.drop_append_of_le_length (by simp; omega)]; simp
            rw [e]; exact hG.step hBr (Nat.le_refl _) hown2 hgrow2
          clear hown2 hgrow2 c0 c1 c2 c3 c4 c5
          go_wp2
          go_roundw
          case rel => exact ⟨m + 1, by omega, by omega, by go_num, rfl, hG2⟩
          case measure => simp [intOf]; omega
        · obtain rfl : m = rs.length := by omega
          go_wp2
          go_ret
          refine ⟨rfl, by simpa using hG.recs, ?_⟩
          have h1 : Below w.heap.size w wb := by rw [Hwb.out]; exact (Below.refl _ _).alloc (Nat.le_refl _) _
          exact h1.trans (hG.bel.mono (by omega))
end Go.Proofs.Qxb6618124a
