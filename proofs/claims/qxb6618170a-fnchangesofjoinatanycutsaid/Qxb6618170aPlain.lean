import Derived.Below
namespace Go.Proofs.Qxb6618170a

/-- A change: [i0, i1, j0, j1]. -/
structure C4 where
  a : Nat
  b : Nat
  c : Nat
  d : Nat

/-- The lengths of the runs of marked lines between the kept ones. -/
def runs : List Bool → List Nat
  | [] => [0]
  | false :: D => 0 :: runs D
  | true :: D => match runs D with
    | [] => [1]
    | x :: xs => (x + 1) :: xs

def emit (i a j b : Nat) : List C4 := if a + b = 0 then [] else [⟨i, i + a, j, j + b⟩]

/-- The changes, run by run. -/
def nz (i j : Nat) : List Nat → List Nat → List C4
  | a :: as, b :: bs => emit i a j b ++ nz (i + a + 1) (j + b + 1) as bs
  | _, _ => []

def kept (D : List Bool) : Nat := D.countP (fun b => !b)

theorem runs_cons (D : List Bool) : ∃ x xs, runs D = x :: xs := by
  cases D with
  | nil => exact ⟨0, [], rfl⟩
  | cons b D =>
    cases b with
    | false => exact ⟨0, runs D, rfl⟩
    | true =>
      cases h : runs D with
      | nil => exact ⟨1, [], by simp [runs, h]⟩
      | cons x xs => exact ⟨x + 1, xs, by simp [runs, h]⟩

theorem runs_true (D : List Bool) {x : Nat} {xs : List Nat} (h : runs D = x :: xs) : runs (true :: D) = (x + 1) :: xs := by simp [runs, h]

theorem runs_length (D : List Bool) : (runs D).length = kept D + 1 := by
  induction D with
  | nil => rfl
  | cons b D ih =>
    cases b with
    | false => simp [runs, kept] at ih ⊢; omega
    | true =>
      obtain ⟨x, xs, h⟩ := runs_cons D
      rw [runs_true D h]
      rw [h] at ih
      simp [kept] at ih ⊢; omega

/-- One change taken: what is left. -/
theorem nz_step (i j a b : Nat) (as bs : List Nat) : nz i j (a :: as) (b :: bs) = emit i a j b ++ nz (i + a) (j + b) (0 :: as) (0 :: bs) := by
  simp [nz, emit]

/-- The run at hand, stepped over. -/
theorem runs_drop (D : List Bool) : ∀ {x : Nat} {xs : List Nat}, runs D = x :: xs → runs (D.drop x) = 0 :: xs ∧ x ≤ D.length ∧ (∀ k, k < x → D[k]? = some true) ∧ D[x]? ≠ some true := by
  induction D with
  | nil =>
    intro x xs h
    simp [runs] at h
    obtain ⟨rfl, rfl⟩ := h
    exact ⟨rfl, Nat.le_refl _, fun k hk => absurd hk (by omega), by simp⟩
  | cons b D ih =>
    intro x xs h
    cases b with
    | false =>
      simp [runs] at h
      obtain ⟨rfl, rfl⟩ := h
      exact ⟨rfl, Nat.zero_le _, fun k hk => absurd hk (by omega), by simp⟩
    | true =>
      obtain ⟨y, ys, hy⟩ := runs_cons D
      rw [runs_true D hy] at h
      simp at h
      obtain ⟨rfl, rfl⟩ := h
      obtain ⟨h1, h2, h3, h4⟩ := ih hy
      refine ⟨by simpa using h1, by simp; omega, fun k hk => ?_, by simpa using h4⟩
      cases k with
      | zero => rfl
      | succ k => simpa using h3 k (by omega)

/-! The gaps between the kept lines. -/
def kp (i : Nat) : List Bool → List Nat
  | [] => []
  | false :: D => i :: kp (i + 1) D
  | true :: D => kp (i + 1) D

def gap (i x j y : Nat) : List C4 := if i < x ∨ j < y then [⟨i, x, j, y⟩] else []

def gpN (nA nB : Nat) (i j : Nat) : List Nat → List Nat → List C4
  | x :: xs, y :: ys => gap i x j y ++ gpN nA nB (x + 1) (y + 1) xs ys
  | _, _ => gap i nA j nB

def kpr (i : Nat) : List Nat → List Nat
  | a :: b :: as => (i + a) :: kpr (i + a + 1) (b :: as)
  | _ => []
def endr (i : Nat) : List Nat → Nat
  | a :: b :: as => endr (i + a + 1) (b :: as)
  | [a] => i + a
  | [] => i

theorem kpr_succ (i a : Nat) (as : List Nat) : kpr (i + 1) (a :: as) = kpr i ((a + 1) :: as) := by
  cases as with
  | nil => rfl
  | cons b as => simp only [kpr]; rw [show i + 1 + a = i + (a + 1) by omega]
theorem endr_succ (i a : Nat) (as : List Nat) : endr (i + 1) (a :: as) = endr i ((a + 1) :: as) := by
  cases as with
  | nil => simp only [endr]; omega
  | cons b as => simp only [endr]; rw [show i + 1 + a = i + (a + 1) by omega]

theorem kp_runs (D : List Bool) : ∀ i, kp i D = kpr i (runs D) ∧ i + D.length = endr i (runs D) := by
  induction D with
  | nil => intro i; exact ⟨rfl, by simp [runs, endr]⟩
  | cons b D ih =>
    intro i
    obtain ⟨x, xs, h⟩ := runs_cons D
    obtain ⟨h1, h2⟩ := ih (i + 1)
    cases b with
    | false =>
      have e : runs (false :: D) = 0 :: x :: xs := by simp [runs, h]
      rw [e]
      rw [h] at h1 h2
      refine ⟨by simp only [kp, kpr, h1, Nat.add_zero], ?_⟩
      simp only [endr, Nat.add_zero, ← h2, List.length_cons]; omega
    | true =>
      rw [runs_true D h]
      rw [h] at h1 h2
      refine ⟨by rw [← kpr_succ, ← h1]; rfl, ?_⟩
      rw [← endr_succ, ← h2, List.length_cons]; omega

theorem gap_emit (i a j b : Nat) : gap i (i + a) j (j + b) = emit i a j b := by
  unfold gap emit
  by_cases h : a + b = 0
  · rw [if_neg (by omega), if_pos h]
  · rw [if_pos (by omega), if_neg h]

theorem gpN_nz (as bs : List Nat) : ∀ i j a b, as.length = bs.length → gpN (endr i (a :: as)) (endr j (b :: bs)) i j (kpr i (a :: as)) (kpr j (b :: bs)) = nz i j (a :: as) (b :: bs) := by
  induction as generalizing bs with
  | nil =>
    intro i j a b h
    have : bs = [] := List.eq_nil_of_length_eq_zero h.symm
    subst this
    simp only [kpr, gpN, endr, nz, List.append_nil]
    exact gap_emit i a j b
  | cons c as ih =>
    intro i j a b h
    cases bs with
    | nil => simp at h
    | cons d bs =>
      have := ih bs (i + a + 1) (j + b + 1) c d (by simpa using h)
      simp only [kpr, gpN, endr]
      rw [this, gap_emit]
      rfl

/-- THE GAPS ARE THE CHANGES. -/
theorem gaps_eq (D I : List Bool) (h : kept D = kept I) : gpN D.length I.length 0 0 (kp 0 D) (kp 0 I) = nz 0 0 (runs D) (runs I) := by
  obtain ⟨a, as, ha⟩ := runs_cons D
  obtain ⟨b, bs, hb⟩ := runs_cons I
  have h1 := kp_runs D 0
  have h2 := kp_runs I 0
  have l1 := runs_length D
  have l2 := runs_length I
  rw [ha] at h1 l1
  rw [hb] at h2 l2
  rw [Nat.zero_add] at h1 h2
  rw [h1.1, h1.2, h2.1, h2.2, ha, hb]
  exact gpN_nz as bs 0 0 a b (by simp at l1 l2; omega)
end Go.Proofs.Qxb6618170a
