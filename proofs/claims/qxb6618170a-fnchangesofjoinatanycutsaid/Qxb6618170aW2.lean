import Derived.Test.Qxb6618170aW1
namespace Go.Proofs.Qxb6618170a
open Go.RowKit

def C4.vals (c : C4) : List Value := [.int .i64 (c.a : Nat), .int .i64 (c.b : Nat), .int .i64 (c.c : Nat), .int .i64 (c.d : Nat)]
def flatC (L : List C4) : List Value := L.flatMap C4.vals
theorem flatC_append (L M : List C4) : flatC (L ++ M) = flatC L ++ flatC M := by simp [flatC]
theorem oneCellC (c : C4) : ∀ u ∈ c.vals, u.oneCell' = true := by
  intro u hu
  simp [C4.vals] at hu
  rcases hu with rfl | rfl | rfl | rfl <;> rfl

theorem Try.info37 : (Try.prog.info? 37).map (fun i => (i.zero, i.size, i.bytes)) = some (some (.agg #[.int .i64 0, .int .i64 0, .int .i64 0, .int .i64 0]), 4, 32) := by kernel_rfl
theorem Try.info31 : (Try.prog.info? 31).map (fun i => (i.zero, i.size, i.bytes)) = some (some (.agg #[.int .i64 0, .int .i64 0, .int .i64 0, .int .i64 0]), 4, 32) := by kernel_rfl

theorem newC (w : World) (c : C4) (e : TypeId) : ∀ j u, c.vals[j]? = some u → (w.alloc (.cells #[.int .i64 (c.a : Nat), .int .i64 (c.b : Nat), .int .i64 (c.c : Nat), .int .i64 (c.d : Nat)] e)).cell? ((⟨w.heap.size, 0, none⟩ : Addr).add j) = some u := by
  intro j u hu
  rw [Addr.add_lit]
  simp only [World.cell?, heap_alloc_new]
  simpa [C4.vals] using hu

structure GathC (wb : World) (B : Nat) (t : TypeId) (M : List C4) (v : Value) (wr : World) : Prop where
  own : wr.ownsRow B t 4 v M.length (flatC M)
  bel : Below B wb wr

/-- The state at the head of the outer loop. -/
structure St2 (wb : World) (B : Nat) (D I : List Bool) (i j : Nat) (M : List C4) (v : Value) (wr : World) : Prop where
  hi : i ≤ D.length
  hj : j ≤ I.length
  g : GathC wb B 37 M v wr
  left : M ++ nz i j (runs (D.drop i)) (runs (I.drop j)) = nz 0 0 (runs D) (runs I)
  kp : kept (D.drop i) = kept (I.drop j)
  few : M.length ≤ i + j

def Rel2 (wb : World) (B : Nat) (D I : List Bool) (v i j : Value) (wr : World) : Prop := ∃ (x y : Nat) (M : List C4), i = .int .i64 x ∧ j = .int .i64 y ∧ St2 wb B D I x y M v wr

theorem drop_cons (D : List Bool) (i : Nat) (h : i < D.length) : D.drop i = D[i] :: D.drop (i + 1) := List.drop_eq_getElem_cons h

theorem St2.both {wb : World} {B : Nat} {D I : List Bool} {i j : Nat} {M : List C4} {v : Value} {wr : World} (h : St2 wb B D I i j M v wr) (hi : i < D.length) (hj : j < I.length) (hd : D[i] = false) (hn : I[j] = false) : St2 wb B D I (i + 1) (j + 1) M v wr := by
  have e1 := drop_cons D i hi
  have e2 := drop_cons I j hj
  rw [hd] at e1
  rw [hn] at e2
  have l := h.left
  have k := h.kp
  rw [e1, e2] at l k
  refine ⟨by omega, by omega, h.g, ?_, ?_, by have := h.few; omega⟩
  · rw [← l]; simp [runs, nz, emit]
  · simpa [kept] using k

/-- What the round's change comes to. -/
theorem St2.change {wb : World} {B : Nat} {D I : List Bool} {i j : Nat} {M : List C4} {v : Value} {wr : World} (h : St2 wb B D I i j M v wr) (hx : i < D.length ∨ j < I.length)
    (hnb : ¬ (∃ (hi : i < D.length) (hj : j < I.length), D[i] = false ∧ I[j] = false)) :
    ∃ a b : Nat, 0 < a + b ∧ i + a ≤ D.length ∧ j + b ≤ I.length ∧ (∀ k, i ≤ k → k < i + a → ∃ hk : k < D.length, D[k] = true) ∧ (∀ hk : i + a < D.length, D[i + a] = false) ∧
      (∀ k, j ≤ k → k < j + b → ∃ hk : k < I.length, I[k] = true) ∧ (∀ hk : j + b < I.length, I[j + b] = false) ∧
      ∀ v' wr', GathC wb B 37 (M ++ [⟨i, i + a, j, j + b⟩]) v' wr' → St2 wb B D I (i + a) (j + b) (M ++ [⟨i, i + a, j, j + b⟩]) v' wr' := by
  obtain ⟨a, ra, ha⟩ := runs_cons (D.drop i)
  obtain ⟨b, rb, hb⟩ := runs_cons (I.drop j)
  obtain ⟨p1, p2, p3, p4⟩ := runs_drop _ ha
  obtain ⟨q1, q2, q3, q4⟩ := runs_drop _ hb
  simp only [List.length_drop] at p2 q2
  have hi := h.hi
  have hj := h.hj
  have hk := h.kp
  have posA : ∀ (hi' : i < D.length), D[i] = true → 0 < a := by
    intro hi' hd
    rcases Nat.eq_zero_or_pos a with h0 | h0
    · subst h0
      exfalso
      apply p4
      rw [List.getElem?_drop, Nat.add_zero, List.getElem?_eq_getElem hi', hd]
    · exact h0
  have posB : ∀ (hj' : j < I.length), I[j] = true → 0 < b := by
    intro hj' hd
    rcases Nat.eq_zero_or_pos b with h0 | h0
    · subst h0
      exfalso
      apply q4
      rw [List.getElem?_drop, Nat.add_zero, List.getElem?_eq_getElem hj', hd]
    · exact h0
  have pos : 0 < a + b := by
    by_cases h1 : i < D.length
    · cases hd : D[i] with
      | true => have := posA h1 hd; omega
      | false =>
        by_cases h2 : j < I.length
        · cases hn : I[j] with
          | true => have := posB h2 hn; omega
          | false => exact absurd ⟨h1, h2, hd, hn⟩ hnb
        · exfalso
          rw [List.drop_eq_nil_of_le (show I.length ≤ j by omega), drop_cons D i h1, hd] at hk
          simp [kept] at hk
    · have h2 : j < I.length := by rcases hx with hx | hx <;> omega
      cases hn : I[j] with
      | true => have := posB h2 hn; omega
      | false =>
        exfalso
        rw [List.drop_eq_nil_of_le (show D.length ≤ i by omega), drop_cons I j h2, hn] at hk
        simp [kept] at hk
  have keepA : kept (D.drop (i + a)) = kept (D.drop i) := by
    have l1 := runs_length (D.drop i)
    have l2 := runs_length ((D.drop i).drop a)
    rw [ha] at l1
    rw [p1] at l2
    rw [List.drop_drop] at l2
    simp at l1 l2
    omega
  have keepB : kept (I.drop (j + b)) = kept (I.drop j) := by
    have l1 := runs_length (I.drop j)
    have l2 := runs_length ((I.drop j).drop b)
    rw [hb] at l1
    rw [q1] at l2
    rw [List.drop_drop] at l2
    simp at l1 l2
    omega
  refine ⟨a, b, pos, by omega, by omega, ?_, ?_, ?_, ?_, ?_⟩
  · intro k hk1 hk2
    have := p3 (k - i) (by omega)
    rw [List.getElem?_drop, show i + (k - i) = k by omega] at this
    obtain ⟨hk, e⟩ := List.getElem?_eq_some_iff.1 this
    exact ⟨hk, e⟩
  · intro hk
    cases e : D[i + a] with
    | false => rfl
    | true =>
      exfalso
      apply p4
      rw [List.getElem?_drop, List.getElem?_eq_getElem hk, e]
  · intro k hk1 hk2
    have := q3 (k - j) (by omega)
    rw [List.getElem?_drop, show j + (k - j) = k by omega] at this
    obtain ⟨hk, e⟩ := List.getElem?_eq_some_iff.1 this
    exact ⟨hk, e⟩
  · intro hk
    cases e : I[j + b] with
    | false => rfl
    | true =>
      exfalso
      apply q4
      rw [List.getElem?_drop, List.getElem?_eq_getElem hk, e]
  · intro v' wr' hg
    refine ⟨by omega, by omega, hg, ?_, by rw [keepA, keepB]; exact hk, by have := h.few; simp; omega⟩
    have l := h.left
    rw [ha, hb, nz_step] at l
    rw [List.drop_drop] at p1 q1
    rw [p1, q1, ← l, List.append_assoc]
    congr 1
    unfold emit
    rw [if_neg (by omega)]
end Go.Proofs.Qxb6618170a
