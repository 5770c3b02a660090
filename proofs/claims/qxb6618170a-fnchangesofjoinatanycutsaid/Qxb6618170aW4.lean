import Derived.Test.Qxb6618170aW3
namespace Go.Proofs.Qxb6618170a
open Go.RowKit

/-- The four cells of a change at a place. -/
structure At4 (w : World) (b o : Nat) (c : C4) : Prop where
  c0 : w.cell? ⟨b, o, none⟩ = some (.int .i64 (c.a : Nat))
  c1 : w.cell? ⟨b, o + 1, none⟩ = some (.int .i64 (c.b : Nat))
  c2 : w.cell? ⟨b, o + 2, none⟩ = some (.int .i64 (c.c : Nat))
  c3 : w.cell? ⟨b, o + 3, none⟩ = some (.int .i64 (c.d : Nat))

/-- A slice of changes at an address. -/
def Chs (w : World) (ao : Option Addr) (M : List C4) : Prop :=
  M = [] ∨ ∃ b, ao = some ⟨b, 0, none⟩ ∧ b < w.heap.size ∧ ∀ i c, M[i]? = some c → At4 w b (i * 4) c

theorem At4.below {B : Nat} {w w' : World} {b o : Nat} {c : C4} (h : At4 w b o c) (hw : Below B w w') (hb : b < B) : At4 w' b o c :=
  ⟨(hw.cell (p := ⟨b, o, none⟩) hb).trans h.c0, (hw.cell (p := ⟨b, o + 1, none⟩) hb).trans h.c1, (hw.cell (p := ⟨b, o + 2, none⟩) hb).trans h.c2, (hw.cell (p := ⟨b, o + 3, none⟩) hb).trans h.c3⟩

theorem Chs.below {B : Nat} {w w' : World} {ao : Option Addr} {M : List C4} (h : Chs w ao M) (hw : Below B w w') (hB : w.heap.size ≤ B) : Chs w' ao M := by
  rcases h with h | ⟨b, rfl, hb, hc⟩
  · exact .inl h
  · exact .inr ⟨b, rfl, by have := hw.size; omega, fun i c hi => (hc i c hi).below hw (by omega)⟩

theorem flatC_get (M : List C4) : ∀ (i : Nat) (c : C4), M[i]? = some c → ∀ j, j < 4 → (flatC M)[i * 4 + j]? = c.vals[j]? := by
  induction M with
  | nil => intro i c h; simp at h
  | cons x M ih =>
    intro i c h j hj
    have e : flatC (x :: M) = x.vals ++ flatC M := by simp [flatC]
    have l : x.vals.length = 4 := rfl
    rw [e]
    cases i with
    | zero =>
      simp at h; subst h
      rw [List.getElem?_append_left (by omega)]
      simp
    | succ i =>
      rw [List.getElem?_append_right (by omega), l, show (i + 1) * 4 + j - 4 = i * 4 + j by omega]
      exact ih i c (by simpa using h) j hj

theorem GathC.chs {wb : World} {B : Nat} {t : TypeId} {M : List C4} {v : Value} {wr : World} (h : GathC wb B t M v wr) : ∃ ao cap, v = .slice ao M.length cap ∧ Chs wr ao M := by
  have ho := h.own
  rcases h.own.2 with ⟨rfl, hn⟩ | ⟨g, cap, cur, rfl, h1, h2, h3⟩
  · exact ⟨none, 0, by rw [hn], .inl (List.eq_nil_of_length_eq_zero hn)⟩
  · refine ⟨_, cap, rfl, .inr ⟨g, rfl, (ho.lt g rfl).2, fun i c hi => ?_⟩⟩
    have key : ∀ j u, c.vals[j]? = some u → wr.cell? ⟨g, i * 4 + j, none⟩ = some u := by
      intro j u hu
      have hj : j < 4 := by
        have := (List.getElem?_eq_some_iff.1 hu).1
        exact this
      have := ho.cells (g := g) rfl (i * 4 + j) u (by rw [flatC_get M i c hi j hj]; exact hu)
      rw [Addr.add_lit] at this
      rwa [Nat.zero_add] at this
    exact ⟨key 0 _ rfl, key 1 _ rfl, key 2 _ rfl, key 3 _ rfl⟩

theorem nz_length (xs : List Nat) : ∀ i j ys, (nz i j xs ys).length ≤ xs.length := by
  induction xs with
  | nil => intro i j ys; simp [nz]
  | cons a xs ih =>
    intro i j ys
    cases ys with
    | nil => simp [nz]
    | cons b ys =>
      have := ih (i + a + 1) (j + b + 1) ys
      simp only [nz, List.length_append, List.length_cons, emit]
      split <;> simp <;> omega

def RelZ (w : World) (B : Nat) (M : List C4) (v i : Value) (wr : World) : Prop := ∃ k : Nat, k ≤ M.length ∧ i = .int .i64 k ∧ GathC w B 31 (M.take k) v wr

def GEnd (w w' : World) (M : List C4) (e : Ending) : Prop := ∃ v, e = .returned v ∧ GathC w w.heap.size 31 M v w'

set_option maxRecDepth 100000 in
set_option maxHeartbeats 2000000 in
theorem zzChanges_any (ao bo : Option Addr) (D I : List Bool) (ac bc : Nat) (w : World) (hD : Bools w ao D) (hI : Bools w bo I) (lD : D.length ≤ 262144) (lI : I.length ≤ 262144) (hk : kept D = kept I) :
    Calls Try.prog 7 #[.slice ao D.length ac, .slice bo I.length bc] w fun e w' => GEnd w w' (nz 0 0 (runs D) (runs I)) e := by
  obtain ⟨i0, hi, hz0, hz1, hz2⟩ := info_parts Try.info31
  have CC := changesOf_any ao bo D I ac bc w hD hI lD lI hk
  have hlen : (nz 0 0 (runs D) (runs I)).length ≤ 262145 := by
    have h1 := nz_length (runs D) 0 0 (runs I)
    have h2 := runs_length D
    have h3 := kept_le D
    omega
  obtain ⟨M, hM⟩ : ∃ M, M = nz 0 0 (runs D) (runs I) := ⟨_, rfl⟩
  unfold ChEnd at CC
  rw [← hM] at CC hlen ⊢
  clear hM hk hD hI
  go_enter Try.func7, Try.ntmps7
  go_wp2_with fail
  refine CC.mono ?_
  rintro e w1 ⟨v, rfl, hG⟩
  obtain ⟨mo, mc, rfl, hC⟩ := hG.chs
  have hbel := hG.bel
  clear hG
  have hsz := hbel.size
  have G0 : GathC w1 w1.heap.size 31 ([] : List C4) (.slice none 0 0) w1 := ⟨World.ownsRow_nil _ _ _ _, Below.refl _ _⟩
  go_wp2
  go_loopw [6, 15] (fun v i wr => RelZ w1 w1.heap.size M v i wr) (fun _ i _ => M.length - (intOf i).toNat)
  case atStart => exact ⟨0, Nat.zero_le _, rfl, by simpa using G0⟩
  case round =>
    obtain ⟨k, hk, rfl, hG⟩ := hrel
    have hBr : w1.heap.size ≤ wr.heap.size := hG.bel.size
    by_cases hlt : k < M.length
    · obtain h | ⟨b, rfl, hb, hc⟩ := hC
      · simp [h] at hlt
      obtain ⟨c0, c1, c2, c3⟩ := (hc k M[k] (by simp)).below hG.bel hb
      have hlt' : (k : Int) < (M.length : Int) := by omega
      have htl : (M.take k).length = k := by simp; omega
      have HT : Hid (M.take (k + 1) = M.take k ++ [M[k]]) := take_snoc M k hlt
      have HL : Hid ((M.take k).length = k) := htl
      clear htl
      go_wp2_with (at_builtin; refine wpList_append_own _ rfl (.tmp 19) (.tmp 29) 25 rfl w1.heap.size 31 i0 (.agg #[.int .i64 0, .int .i64 0, .int .i64 0, .int .i64 0]) 4 32 Try.underlying25 hi hz0 hz1 hz2 rfl (by decide) _ _ _ rfl ((hG.own.alloc _).alloc _) ⟨wr.heap.size + 1, 0, none⟩ 1 1 (C4.vals M[k]) rfl rfl (newC2 _ _ M[k] _) (oneCellC _) (by have := HL.out; unfold maxLen; omega) (by have := HL.out; omega) (by simp; omega) ?_)
      intro v' w2 hown2 hgrow2 _
      have hG2 : GathC w1 w1.heap.size 31 (M.take (k + 1)) v' w2 := by
        rw [HT.out]
        exact hG.step hBr (by rw [HL.out]; exact hown2) hgrow2
      clear hown2 hgrow2 c0 c1 c2 c3
      go_wp2
      go_roundw
      case rel => exact ⟨k + 1, by omega, by go_num, hG2⟩
      case measure => simp [intOf]; omega
    · obtain rfl : k = M.length := by omega
      have G1 := hG
      rw [List.take_of_length_le (Nat.le_refl _)] at G1
      clear hG
      go_wp2
      go_ret
      exact ⟨u6, rfl, G1.own.mono' hsz, hbel.trans (G1.bel.mono hsz)⟩
end Go.Proofs.Qxb6618170a
