import Derived.Test.Qxb6618170aPlain
namespace Go.Proofs.Qxb6618170a

/-- Two rows of runs, end to end: the last of the one and the first of the other are one. -/
def joinR : List Nat → List Nat → List Nat
  | [], ys => ys
  | [a], y :: ys => (a + y) :: ys
  | [a], [] => [a]
  | a :: b :: xs, ys => a :: joinR (b :: xs) ys

theorem joinR_succ (a : Nat) (xs : List Nat) (y : Nat) (ys : List Nat) : ∀ {z zs}, joinR (a :: xs) (y :: ys) = z :: zs → joinR ((a + 1) :: xs) (y :: ys) = (z + 1) :: zs := by
  intro z zs h
  cases xs with
  | nil => simp only [joinR, List.cons.injEq] at h ⊢; obtain ⟨rfl, rfl⟩ := h; exact ⟨by omega, rfl⟩
  | cons b xs => simp only [joinR, List.cons.injEq] at h ⊢; obtain ⟨rfl, rfl⟩ := h; exact ⟨rfl, rfl⟩

theorem runs_append (D E : List Bool) : runs (D ++ E) = joinR (runs D) (runs E) := by
  obtain ⟨y, ys, hy⟩ := runs_cons E
  induction D with
  | nil => rw [List.nil_append, hy]; simp [runs, joinR]
  | cons b D ih =>
    obtain ⟨x, xs, hx⟩ := runs_cons D
    rw [hx, hy] at ih
    cases b with
    | false =>
      have e1 : runs (false :: D) = 0 :: x :: xs := by simp [runs, hx]
      have e2 : runs (false :: (D ++ E)) = 0 :: runs (D ++ E) := rfl
      rw [List.cons_append, e1, e2, ih, hy]
      rfl
    | true =>
      obtain ⟨z, zs, hz⟩ := runs_cons (D ++ E)
      rw [hz] at ih
      rw [List.cons_append, runs_true _ hz, runs_true _ hx, hy]
      exact (joinR_succ x xs y ys ih.symm).symm

def shift (n m : Nat) (c : C4) : C4 := ⟨n + c.a, n + c.b, m + c.c, m + c.d⟩

theorem nz_shift (n m : Nat) (xs : List Nat) : ∀ i j ys, nz (n + i) (m + j) xs ys = (nz i j xs ys).map (shift n m) := by
  induction xs with
  | nil => intro i j ys; simp [nz]
  | cons a xs ih =>
    intro i j ys
    cases ys with
    | nil => simp [nz]
    | cons b ys =>
      simp only [nz, List.map_append]
      have := ih (i + a + 1) (j + b + 1) ys
      rw [show n + i + a + 1 = n + (i + a + 1) by omega, show m + j + b + 1 = m + (j + b + 1) by omega, this]
      congr 1
      unfold emit
      split
      · rfl
      · simp [shift]; omega

/-- The two rows of changes, end to end: a change that ends the first at (n, m) and one that starts the second there are one. -/
def J (n m : Nat) (F S : List C4) : List C4 :=
  match F.getLast?, S.head? with
  | some l, some h => if l.b = n ∧ l.d = m ∧ h.a = n ∧ h.c = m then F.dropLast ++ [⟨l.a, h.b, l.c, h.d⟩] ++ S.drop 1 else F ++ S
  | _, _ => F ++ S

theorem J_nilL (n m : Nat) (S : List C4) : J n m [] S = S := by simp [J]
theorem J_nilR (n m : Nat) (F : List C4) : J n m F [] = F := by simp [J]
theorem J_one (n m : Nat) (l h : C4) (S : List C4) : J n m [l] (h :: S) = if l.b = n ∧ l.d = m ∧ h.a = n ∧ h.c = m then [⟨l.a, h.b, l.c, h.d⟩] ++ S else [l] ++ h :: S := by simp [J]
theorem J_cons (n m : Nat) (e f : C4) (F S : List C4) : J n m (e :: f :: F) S = e :: J n m (f :: F) S := by
  unfold J
  cases S with
  | nil => simp
  | cons h S =>
    have e1 : (e :: f :: F).getLast? = (f :: F).getLast? := by simp [List.getLast?_cons_cons]
    rw [e1]
    cases hl : (f :: F).getLast? with
    | none => simp
    | some l =>
      simp only [List.head?_cons]
      split
      · simp
      · simp

theorem endr_ge (xs : List Nat) : ∀ i, i ≤ endr i xs := by
  induction xs with
  | nil => intro i; simp [endr]
  | cons a xs ih =>
    intro i
    cases xs with
    | nil => simp [endr]
    | cons b xs => simp only [endr]; have := ih (i + a + 1); omega

theorem nz_bounds (xs : List Nat) : ∀ i j ys, ∀ c ∈ nz i j xs ys, i ≤ c.a ∧ c.a ≤ c.b ∧ c.b ≤ endr i xs ∧ j ≤ c.c ∧ c.c ≤ c.d ∧ c.d ≤ endr j ys := by
  induction xs with
  | nil => intro i j ys c h; simp [nz] at h
  | cons a xs ih =>
    intro i j ys c h
    cases ys with
    | nil => simp [nz] at h
    | cons b ys =>
      simp only [nz, List.mem_append] at h
      have g1 : i + a ≤ endr i (a :: xs) ∧ (xs ≠ [] → endr (i + a + 1) xs = endr i (a :: xs)) := by
        cases xs with
        | nil => simp [endr]
        | cons x xs => simp only [endr]; have := endr_ge (x :: xs) (i + a + 1); exact ⟨by omega, fun _ => trivial⟩
      have g2 : j + b ≤ endr j (b :: ys) ∧ (ys ≠ [] → endr (j + b + 1) ys = endr j (b :: ys)) := by
        cases ys with
        | nil => simp [endr]
        | cons x ys => simp only [endr]; have := endr_ge (x :: ys) (j + b + 1); exact ⟨by omega, fun _ => trivial⟩
      rcases h with h | h
      · unfold emit at h
        split at h
        · cases h
        · simp at h; subst h; simp; omega
      · have hx : xs ≠ [] := by rintro rfl; simp [nz] at h
        have hy : ys ≠ [] := by
          rintro rfl
          cases xs <;> simp [nz] at h
        have := ih _ _ _ c h
        rw [g1.2 hx, g2.2 hy] at this
        omega

theorem nz_join (xs : List Nat) : ∀ (i j a b : Nat) (ys : List Nat), xs.length = ys.length → ∀ (u v : Nat) (us vs : List Nat),
    nz i j (joinR (a :: xs) (u :: us)) (joinR (b :: ys) (v :: vs)) = J (endr i (a :: xs)) (endr j (b :: ys)) (nz i j (a :: xs) (b :: ys)) (nz (endr i (a :: xs)) (endr j (b :: ys)) (u :: us) (v :: vs)) := by
  induction xs with
  | nil =>
    intro i j a b ys hl u v us vs
    have : ys = [] := List.eq_nil_of_length_eq_zero hl.symm
    subst this
    simp only [joinR, endr, nz, List.append_nil]
    by_cases h1 : a + b = 0
    · have ha : a = 0 := by omega
      have hb : b = 0 := by omega
      subst ha hb
      rw [show emit i 0 j 0 = [] from by simp [emit], J_nilL]
      simp
    · rw [show emit i a j b = [⟨i, i + a, j, j + b⟩] from by unfold emit; rw [if_neg h1]]
      rw [show emit i (a + u) j (b + v) = [⟨i, i + (a + u), j, j + (b + v)⟩] from by unfold emit; rw [if_neg (by omega)]]
      by_cases h2 : u + v = 0
      · have hu : u = 0 := by omega
        have hv : v = 0 := by omega
        subst hu hv
        rw [show emit (i + a) 0 (j + b) 0 = [] from by simp [emit]]
        simp only [Nat.add_zero, List.nil_append]
        cases hS : nz (i + a + 1) (j + b + 1) us vs with
        | nil => rw [J_nilR]; rfl
        | cons h S =>
          have := nz_bounds us (i + a + 1) (j + b + 1) vs h (by rw [hS]; exact List.mem_cons_self)
          rw [J_one, if_neg (by simp only []; omega)]
      · rw [show emit (i + a) u (j + b) v = [⟨i + a, i + a + u, j + b, j + b + v⟩] from by unfold emit; rw [if_neg h2]]
        rw [List.singleton_append, List.singleton_append, J_one, if_pos ⟨rfl, rfl, rfl, rfl⟩]
        simp [Nat.add_assoc]
  | cons a' xs ih =>
    intro i j a b ys hl u v us vs
    cases ys with
    | nil => simp at hl
    | cons b' ys =>
      have key := ih (i + a + 1) (j + b + 1) a' b' ys (by simpa using hl) u v us vs
      have e1 : joinR (a :: a' :: xs) (u :: us) = a :: joinR (a' :: xs) (u :: us) := rfl
      have e2 : joinR (b :: b' :: ys) (v :: vs) = b :: joinR (b' :: ys) (v :: vs) := rfl
      have e3 : endr i (a :: a' :: xs) = endr (i + a + 1) (a' :: xs) := rfl
      have e4 : endr j (b :: b' :: ys) = endr (j + b + 1) (b' :: ys) := rfl
      have e5 : nz i j (a :: a' :: xs) (b :: b' :: ys) = emit i a j b ++ nz (i + a + 1) (j + b + 1) (a' :: xs) (b' :: ys) := rfl
      have e6 : nz i j (a :: joinR (a' :: xs) (u :: us)) (b :: joinR (b' :: ys) (v :: vs)) = emit i a j b ++ nz (i + a + 1) (j + b + 1) (joinR (a' :: xs) (u :: us)) (joinR (b' :: ys) (v :: vs)) := rfl
      rw [e1, e2, e3, e4, e5, e6, key]
      have g1 := endr_ge (a' :: xs) (i + a + 1)
      have g2 := endr_ge (b' :: ys) (j + b + 1)
      generalize endr (i + a + 1) (a' :: xs) = n at *
      generalize endr (j + b + 1) (b' :: ys) = m at *
      generalize nz n m (u :: us) (v :: vs) = S
      generalize nz (i + a + 1) (j + b + 1) (a' :: xs) (b' :: ys) = F
      unfold emit
      split
      · simp
      · cases F with
        | nil =>
          rw [J_nilL, List.append_nil]
          cases S with
          | nil => rw [J_nilR]; rfl
          | cons h S => rw [J_one, if_neg (by simp only []; omega)]
        | cons f F => rw [List.singleton_append, List.singleton_append, J_cons]

/-- THE JOIN. -/
theorem join_eq (D1 I1 D2 I2 : List Bool) (h1 : kept D1 = kept I1) :
    nz 0 0 (runs (D1 ++ D2)) (runs (I1 ++ I2)) = J D1.length I1.length (nz 0 0 (runs D1) (runs I1)) ((nz 0 0 (runs D2) (runs I2)).map (shift D1.length I1.length)) := by
  rw [← nz_shift, Nat.add_zero, Nat.add_zero, runs_append, runs_append]
  obtain ⟨a, xs, ha⟩ := runs_cons D1
  obtain ⟨b, ys, hb⟩ := runs_cons I1
  obtain ⟨u, us, hu⟩ := runs_cons D2
  obtain ⟨v, vs, hv⟩ := runs_cons I2
  have k1 := (kp_runs D1 0).2
  have k2 := (kp_runs I1 0).2
  have l1 := runs_length D1
  have l2 := runs_length I1
  rw [ha] at k1 l1
  rw [hb] at k2 l2
  rw [Nat.zero_add] at k1 k2
  rw [k1, k2, ha, hb, hu, hv]
  exact nz_join xs 0 0 a b ys (by simp at l1 l2; omega) u v us vs

def marked (D : List Bool) : Nat := D.countP (fun b => b)
def sumA (M : List C4) : Nat := (M.map fun c => c.b - c.a).sum
def sumC (M : List C4) : Nat := (M.map fun c => c.d - c.c).sum

theorem runs_sum (D : List Bool) : (runs D).sum = marked D := by
  induction D with
  | nil => rfl
  | cons b D ih =>
    obtain ⟨x, xs, h⟩ := runs_cons D
    cases b with
    | false =>
      have e : runs (false :: D) = 0 :: runs D := rfl
      rw [e, List.sum_cons, ih]; simp [marked]
    | true =>
      rw [runs_true D h]
      rw [h] at ih
      simp only [List.sum_cons] at ih ⊢
      have : marked (true :: D) = marked D + 1 := by simp [marked]
      omega

theorem nz_sums (xs : List Nat) : ∀ i j ys, xs.length = ys.length → sumA (nz i j xs ys) = xs.sum ∧ sumC (nz i j xs ys) = ys.sum := by
  induction xs with
  | nil =>
    intro i j ys h
    have : ys = [] := List.eq_nil_of_length_eq_zero h.symm
    subst this
    exact ⟨rfl, rfl⟩
  | cons a xs ih =>
    intro i j ys h
    cases ys with
    | nil => simp at h
    | cons b ys =>
      obtain ⟨h1, h2⟩ := ih (i + a + 1) (j + b + 1) ys (by simpa using h)
      simp only [sumA, sumC] at h1 h2 ⊢
      simp only [nz, List.map_append, List.sum_append, List.sum_cons, h1, h2]
      unfold emit
      split
      · simp; omega
      · simp

theorem sums_eq (D I : List Bool) (h : kept D = kept I) : sumA (nz 0 0 (runs D) (runs I)) = marked D ∧ sumC (nz 0 0 (runs D) (runs I)) = marked I := by
  have := nz_sums (runs D) 0 0 (runs I) (by rw [runs_length, runs_length, h])
  rw [runs_sum, runs_sum] at this
  exact this

theorem ch_bounds (D I : List Bool) : ∀ c ∈ nz 0 0 (runs D) (runs I), c.a ≤ c.b ∧ c.b ≤ D.length ∧ c.c ≤ c.d ∧ c.d ≤ I.length := by
  intro c hc
  have h := nz_bounds _ _ _ _ c hc
  have k1 := (kp_runs D 0).2
  have k2 := (kp_runs I 0).2
  omega

theorem J_length (n m : Nat) (F S : List C4) : (J n m F S).length ≤ F.length + S.length := by
  unfold J
  split
  · rename_i l h e1 e2
    have hF : F ≠ [] := by rintro rfl; cases e1
    have hS : S ≠ [] := by rintro rfl; cases e2
    have := List.length_pos_iff.2 hF
    have := List.length_pos_iff.2 hS
    split
    · simp; omega
    · simp
  · simp
end Go.Proofs.Qxb6618170a
